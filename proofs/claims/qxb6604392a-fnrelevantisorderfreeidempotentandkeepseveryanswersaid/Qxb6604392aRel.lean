import Derived.Test.Qxb6604392aDelete
import Derived.Deep.RegionHeld
namespace Go.Proofs.Qxb6604392a
open Go.ChangeShapes Go.WideShapes Go.ChangeAt Go.RowKit Go.Maps
set_option linter.unusedVariables false

theorem stepF_bound (f : Bool → ByteArray → Option Int) (o : Line) (hf : ∀ p s, 0 ≤ (f p s).getD 0 ∧ (f p s).getD 0 ≤ 9223372036854775807) (ho : o.ret ≤ 9223372036854775807) : ∀ p s, 0 ≤ (stepF f o p s).getD 0 ∧ (stepF f o p s).getD 0 ≤ 9223372036854775807 := by
  intro p s
  unfold stepF
  split
  · unfold upd
    split
    · have := hf o.found o.val
      simp only [Option.getD_some]
      omega
    · exact hf p s
  · exact hf p s

theorem lastF_bound (l : List Line) (h : ∀ o ∈ l, o.ret ≤ 9223372036854775807) : ∀ p s, 0 ≤ (lastF l p s).getD 0 ∧ (lastF l p s).getD 0 ≤ 9223372036854775807 := by
  unfold lastF
  have : ∀ (l : List Line) (f : Bool → ByteArray → Option Int), (∀ o ∈ l, o.ret ≤ 9223372036854775807) → (∀ p s, 0 ≤ (f p s).getD 0 ∧ (f p s).getD 0 ≤ 9223372036854775807) → ∀ p s, 0 ≤ (l.foldl stepF f p s).getD 0 ∧ (l.foldl stepF f p s).getD 0 ≤ 9223372036854775807 := by
    intro l
    induction l with
    | nil => intro f _ hf; exact hf
    | cons a l ih => intro f hl hf; exact ih _ (fun o ho => hl o (List.mem_cons_of_mem _ ho)) (stepF_bound f a hf (hl a List.mem_cons_self))
  exact this l _ h (fun p s => by simp)

theorem lastF_take (l : List Line) (k : Nat) (h : k < l.length) : lastF (l.take (k + 1)) = stepF (lastF (l.take k)) l[k] := by
  unfold lastF
  rw [List.take_succ_eq_append_getElem h, List.foldl_append]
  rfl

set_option maxHeartbeats 2000000 in
set_option maxRecDepth 100000 in
theorem rel_any (l : List Line) (base g n c : Nat) (w : World) (hn : l.length ≤ 4096) (hln : l.length ≤ n) (hlc : l.length ≤ c) (hH : Hist w base g n l) (hs : ∀ o ∈ l, o.left.2.size ≤ maxLen) (hv : ∀ o ∈ l, o.val.size ≤ maxLen) (hr : ∀ o ∈ l, -9223372036854775808 ≤ o.ret ∧ o.ret ≤ 9223372036854775807) :
    Calls Try.prog 9 #[.slice (some ⟨g, 0, none⟩) l.length c] w fun e w' => e = .returned (.slice (some ⟨g, 0, none⟩) (relevantL l).length c) ∧ w.grownBy w' (some g) ∧ Hist w' base g n (relevantL l) := by
  have HHi : Hid (Hist w base g n l) := hH
  have HSz : Hid (∀ o ∈ l, o.left.2.size ≤ maxLen) := hs
  have HVz : Hid (∀ o ∈ l, o.val.size ≤ maxLen) := hv
  have HR : Hid (∀ o ∈ l, -9223372036854775808 ≤ o.ret ∧ o.ret ≤ 9223372036854775807) := hr
  have hgw := hH.hi
  clear hH hs hv hr
  have hmm := @run_makeMap Try.prog
  go_enter Try.func9, Try.ntmps9
  go_wp2
  go_loopw [9] (fun i wr => ∃ k : Nat, k ≤ l.length ∧ i = .int .i64 k ∧ Below w.heap.size w wr ∧ Del wr (w.heap.size + 1) w.heap.size k (lastF (l.take k))) (fun i _ => l.length - (intOf i).toNat)
  case atStart =>
    refine ⟨0, Nat.zero_le _, rfl, ((Below.refl _ _).alloc (Nat.le_refl _) _).alloc (by simp) _, ?_, (MapIs.new w).alloc _⟩
    have h1 := heap_alloc2_new w (.map #[] 0) (.cells #[.map (some w.heap.size)] 35)
    rw [cell_of_row _ _ 0 _ 35 (0, 0) h1]; rfl
  case round =>
    clear hmm
    obtain ⟨k, hk, rfl, hb, hD⟩ := hrel
    have HB : Hid (Below w.heap.size w wr) := hb
    have HD : Hid (Del wr (w.heap.size + 1) w.heap.size k (lastF (l.take k))) := hD
    by_cases hlt : k < l.length
    · have hL := (HHi.out.at_ k hlt).later hb hgw
      have bmw : w.heap.size + 1 < wr.heap.size := World.block_lt_of_cell? _ _ hD.cell
      clear hb hD
      obtain ⟨x, hx⟩ : ∃ x, x = l[k] := ⟨_, rfl⟩
      rw [← hx] at hL
      have HX : Hid (x = l[k]) := hx
      have hbd := lastF_bound (l.take k) (fun o ho => (HR.out o (List.mem_of_mem_take ho)).2) x.found x.val
      have hrt := HR.out x (by rw [hx]; exact List.getElem_mem hlt)
      have hvs := HVz.out x (by rw [hx]; exact List.getElem_mem hlt)
      clear hx
      by_cases hgo : (x.isGet && x.ok) = true
      · obtain ⟨hg, ho⟩ := Bool.and_eq_true_iff.1 hgo
        have R : ∀ W : World, Calls Try.prog 11 #[.agg x.cells] W.drew fun e w' => e = .returned (.agg #[.bool x.found, .string x.val]) ∧ ((W.alloc (.cells x.cells 30)).alloc (.cells #[.bool x.found, .string x.val] 37)).drew = w' := fun W => read_any x W.drew
        have hst : stepF (lastF (l.take k)) x = upd (lastF (l.take k)) x.found x.val (max ((lastF (l.take k) x.found x.val).getD 0) x.ret) := by unfold stepF; rw [hgo]; rfl
        have HST : Hid (stepF (lastF (l.take k)) x = upd (lastF (l.take k)) x.found x.val (max ((lastF (l.take k) x.found x.val).getD 0) x.ret)) := hst
        clear hst hgo
        have hA : ∀ o : Obj, Del (wr.alloc o) (w.heap.size + 1) w.heap.size k (lastF (l.take k)) := fun o => HD.out.below ((Below.refl _ _).alloc (Nat.le_refl _) _)
        have HDA : Hid (∀ o : Obj, Del (wr.alloc o) (w.heap.size + 1) w.heap.size k (lastF (l.take k))) := hA
        clear hA
        obtain ⟨x0, x1, x2, x3, x4, x5, x6, x7⟩ := x
        obtain ⟨c0, c1, c2, c3, c4, c5, c6, c7⟩ := hL
        unfold Line.isGet at hg
        simp only [Line.cells] at c0 c1 c2 c3 c4 c5 c6 c7 R hg ho hbd hrt hvs HST
        subst ho
        go_upto_region 6 with fail
        have DA := HDA.out (.cells #[.int .i64 x0, .string x1, .string x2, .string x3, .bool x4, .int .i64 x5, .int .i64 x6, .bool true] 30)
        have hnew := heap_alloc_new wr (.cells #[.int .i64 x0, .string x1, .string x2, .string x3, .bool x4, .int .i64 x5, .int .i64 x6, .bool true] 30)
        have BA : Below wr.heap.size wr (wr.alloc (.cells #[.int .i64 x0, .string x1, .string x2, .string x3, .bool x4, .int .i64 x5, .int .i64 x6, .bool true] 30)) := (Below.refl _ _).alloc (Nat.le_refl _) _
        have bxw : wr.heap.size < (wr.alloc (.cells #[.int .i64 x0, .string x1, .string x2, .string x3, .bool x4, .int .i64 x5, .int .i64 x6, .bool true] 30)).heap.size := by simp
        clear HDA c0 c1 c2 c3 c4 c5 c6 c7
        generalize wr.alloc (.cells #[.int .i64 x0, .string x1, .string x2, .string x3, .bool x4, .int .i64 x5, .int .i64 x6, .bool true] 30) = wa at DA hnew BA bxw ⊢
        have BW : Hid (Below w.heap.size w wa) := HB.out.trans (BA.mono HB.out.size)
        clear BA
        have d0 : wa.cell? ⟨wr.heap.size, 0, none⟩ = some (.int .i64 x0) := by rw [cell_of_row _ _ 0 _ 30 (0, 0) hnew]; rfl
        have d1 : wa.cell? ⟨wr.heap.size, 1, none⟩ = some (.string x1) := by rw [cell_of_row _ _ 1 _ 30 (0, 0) hnew]; rfl
        have d2 : wa.cell? ⟨wr.heap.size, 2, none⟩ = some (.string x2) := by rw [cell_of_row _ _ 2 _ 30 (0, 0) hnew]; rfl
        have d3 : wa.cell? ⟨wr.heap.size, 3, none⟩ = some (.string x3) := by rw [cell_of_row _ _ 3 _ 30 (0, 0) hnew]; rfl
        have d4 : wa.cell? ⟨wr.heap.size, 4, none⟩ = some (.bool x4) := by rw [cell_of_row _ _ 4 _ 30 (0, 0) hnew]; rfl
        have d5 : wa.cell? ⟨wr.heap.size, 5, none⟩ = some (.int .i64 x5) := by rw [cell_of_row _ _ 5 _ 30 (0, 0) hnew]; rfl
        have d6 : wa.cell? ⟨wr.heap.size, 6, none⟩ = some (.int .i64 x6) := by rw [cell_of_row _ _ 6 _ 30 (0, 0) hnew]; rfl
        have d7 : wa.cell? ⟨wr.heap.size, 7, none⟩ = some (.bool true) := by rw [cell_of_row _ _ 7 _ 30 (0, 0) hnew]; rfl
        clear hnew
        have dm := DA.cell
        have m5 := ((((DA.map.alloc (.cells #[.int .i64 x0, .string x1, .string x2, .string x3, .bool x4, .int .i64 x5, .int .i64 x6, .bool true] 30)).alloc (.cells #[.bool x4, .string x3] 37)).alloc (.cells #[.int .i64 x0, .string x1, .string x2, .string x3, .bool x4, .int .i64 x5, .int .i64 x6, .bool true] 30)).alloc (.cells #[.bool x4, .string x3] 37)).drew
        have B5 : ∀ o1 o2 o3 o4 : Obj, Below wa.heap.size wa ((((wa.alloc o1).alloc o2).alloc o3).alloc o4).drew := fun o1 o2 o3 o4 => (((((Below.refl _ _).alloc (Nat.le_refl _) _).alloc (by simp) _).alloc (by simp; omega) _).alloc (by simp; omega) _).drew
        have hlk := m5.look x4 x3 hvs
        generalize hfv : (lastF (l.take k) x4 x3).getD 0 = fv at hlk hbd HST
        have HFV : Hid ((lastF (l.take k) x4 x3).getD 0 = fv) := hfv
        clear hfv
        rcases Int.lt_or_le fv x6 with hmx | hmx
        · have m1 : decide (fv < x6) = true := by simpa using hmx
          have m2 : decide (x6 < fv) = false := by simp; omega
          have HMX : Hid (max fv x6 = x6) := by show max fv x6 = x6; omega
          obtain ⟨wz, hput, hmapz, hturn⟩ := m5.put (by unfold maxLen; omega) x4 x3 hvs x6 (by simp [Lit.wf, IntKind.min, IntKind.max, IntKind.bits, IntKind.signed]; omega)
          have HMZ : Hid (MapIs wz w.heap.size (k + 1) (upd (lastF (l.take k)) x4 x3 x6)) := hmapz
          have hgz := hturn.grown
          have BZ : Hid (Below w.heap.size w wz) := (BW.out.trans ((B5 _ _ _ _).mono BW.out.size)).grown hgz (Nat.le_trans BW.out.size (B5 _ _ _ _).size) (fun j hj => by injection hj with hj; omega)
          have zc : ∀ bb j v, bb < wa.heap.size → bb ≠ w.heap.size → wa.cell? ⟨bb, j, none⟩ = some v → wz.cell? ⟨bb, j, none⟩ = some v := fun bb j v h1 h2 hv => hgz.cell (((B5 _ _ _ _).cell (p := ⟨bb, j, none⟩) h1).trans hv) (fun e => h2 (by injection e))
          have z0 := zc _ 0 _ bxw (by omega) d0
          have z1 := zc _ 1 _ bxw (by omega) d1
          have z2 := zc _ 2 _ bxw (by omega) d2
          have z3 := zc _ 3 _ bxw (by omega) d3
          have z4 := zc _ 4 _ bxw (by omega) d4
          have z5 := zc _ 5 _ bxw (by omega) d5
          have z6 := zc _ 6 _ bxw (by omega) d6
          have z7 := zc _ 7 _ bxw (by omega) d7
          have zm := zc _ 0 _ (by omega) (by omega) dm
          have hSF : ∀ W : World, Below wa.heap.size wa W → W.cell? ⟨w.heap.size + 1, 0, none⟩ = some (.map (some w.heap.size)) ∧ W.cell? ⟨wr.heap.size, 0, none⟩ = some (.int .i64 x0) ∧ W.cell? ⟨wr.heap.size, 1, none⟩ = some (.string x1) ∧ W.cell? ⟨wr.heap.size, 2, none⟩ = some (.string x2) ∧ W.cell? ⟨wr.heap.size, 3, none⟩ = some (.string x3) ∧ W.cell? ⟨wr.heap.size, 4, none⟩ = some (.bool x4) ∧ W.cell? ⟨wr.heap.size, 5, none⟩ = some (.int .i64 x5) ∧ W.cell? ⟨wr.heap.size, 6, none⟩ = some (.int .i64 x6) ∧ W.cell? ⟨wr.heap.size, 7, none⟩ = some (.bool true) := fun W hW =>
            ⟨(hW.cell (p := ⟨w.heap.size + 1, 0, none⟩) (by show w.heap.size + 1 < _; omega)).trans dm, (hW.cell (p := ⟨wr.heap.size, 0, none⟩) bxw).trans d0, (hW.cell (p := ⟨wr.heap.size, 1, none⟩) bxw).trans d1, (hW.cell (p := ⟨wr.heap.size, 2, none⟩) bxw).trans d2, (hW.cell (p := ⟨wr.heap.size, 3, none⟩) bxw).trans d3, (hW.cell (p := ⟨wr.heap.size, 4, none⟩) bxw).trans d4, (hW.cell (p := ⟨wr.heap.size, 5, none⟩) bxw).trans d5, (hW.cell (p := ⟨wr.heap.size, 6, none⟩) bxw).trans d6, (hW.cell (p := ⟨wr.heap.size, 7, none⟩) bxw).trans d7⟩
          have HSF : Hid (∀ o1 o2 o3 o4 : Obj, _) := fun o1 o2 o3 o4 => hSF _ (B5 o1 o2 o3 o4)
          clear zc hgz hturn hmapz m5 B5 DA hSF
          go_region_held (fun W => W.cell? ⟨w.heap.size + 1, 0, none⟩ = some (.map (some w.heap.size)) ∧ W.cell? ⟨wr.heap.size, 0, none⟩ = some (.int .i64 x0) ∧ W.cell? ⟨wr.heap.size, 1, none⟩ = some (.string x1) ∧ W.cell? ⟨wr.heap.size, 2, none⟩ = some (.string x2) ∧ W.cell? ⟨wr.heap.size, 3, none⟩ = some (.string x3) ∧ W.cell? ⟨wr.heap.size, 4, none⟩ = some (.bool x4) ∧ W.cell? ⟨wr.heap.size, 5, none⟩ = some (.int .i64 x5) ∧ W.cell? ⟨wr.heap.size, 6, none⟩ = some (.int .i64 x6) ∧ W.cell? ⟨wr.heap.size, 7, none⟩ = some (.bool true)) (first | exact HSF.out _ _ _ _ | go_keep) (first | (go_at_call 11; refine (R _).mono ?_; rintro e w' ⟨rfl, rfl⟩))
          have HZM : Hid (wz.cell? ⟨w.heap.size + 1, 0, none⟩ = some (.map (some w.heap.size))) := zm
          clear z0 z1 z2 z3 z4 z5 z6 z7 zm d0 d1 d2 d3 d4 d5 d6 d7 dm hput hlk R m1 hmx
          go_wp2
          refine ⟨⟨k + 1, by omega, by go_num, BZ.out, HZM.out, ?_⟩, by simp [intOf]; omega⟩
          rw [lastF_take l k hlt, ← HX.out, HST.out, HMX.out]
          exact HMZ.out
        · have m1 : decide (fv < x6) = false := by simp; omega
          have HMX : Hid (max fv x6 = fv) := by show max fv x6 = fv; omega
          obtain ⟨wz, hput, hmapz, hturn⟩ := m5.put (by unfold maxLen; omega) x4 x3 hvs fv (by simp [Lit.wf, IntKind.min, IntKind.max, IntKind.bits, IntKind.signed]; omega)
          have HMZ : Hid (MapIs wz w.heap.size (k + 1) (upd (lastF (l.take k)) x4 x3 fv)) := hmapz
          have hgz := hturn.grown
          have BZ : Hid (Below w.heap.size w wz) := (BW.out.trans ((B5 _ _ _ _).mono BW.out.size)).grown hgz (Nat.le_trans BW.out.size (B5 _ _ _ _).size) (fun j hj => by injection hj with hj; omega)
          have zc : ∀ bb j v, bb < wa.heap.size → bb ≠ w.heap.size → wa.cell? ⟨bb, j, none⟩ = some v → wz.cell? ⟨bb, j, none⟩ = some v := fun bb j v h1 h2 hv => hgz.cell (((B5 _ _ _ _).cell (p := ⟨bb, j, none⟩) h1).trans hv) (fun e => h2 (by injection e))
          have z0 := zc _ 0 _ bxw (by omega) d0
          have z1 := zc _ 1 _ bxw (by omega) d1
          have z2 := zc _ 2 _ bxw (by omega) d2
          have z3 := zc _ 3 _ bxw (by omega) d3
          have z4 := zc _ 4 _ bxw (by omega) d4
          have z5 := zc _ 5 _ bxw (by omega) d5
          have z6 := zc _ 6 _ bxw (by omega) d6
          have z7 := zc _ 7 _ bxw (by omega) d7
          have zm := zc _ 0 _ (by omega) (by omega) dm
          have hSF : ∀ W : World, Below wa.heap.size wa W → W.cell? ⟨w.heap.size + 1, 0, none⟩ = some (.map (some w.heap.size)) ∧ W.cell? ⟨wr.heap.size, 0, none⟩ = some (.int .i64 x0) ∧ W.cell? ⟨wr.heap.size, 1, none⟩ = some (.string x1) ∧ W.cell? ⟨wr.heap.size, 2, none⟩ = some (.string x2) ∧ W.cell? ⟨wr.heap.size, 3, none⟩ = some (.string x3) ∧ W.cell? ⟨wr.heap.size, 4, none⟩ = some (.bool x4) ∧ W.cell? ⟨wr.heap.size, 5, none⟩ = some (.int .i64 x5) ∧ W.cell? ⟨wr.heap.size, 6, none⟩ = some (.int .i64 x6) ∧ W.cell? ⟨wr.heap.size, 7, none⟩ = some (.bool true) := fun W hW =>
            ⟨(hW.cell (p := ⟨w.heap.size + 1, 0, none⟩) (by show w.heap.size + 1 < _; omega)).trans dm, (hW.cell (p := ⟨wr.heap.size, 0, none⟩) bxw).trans d0, (hW.cell (p := ⟨wr.heap.size, 1, none⟩) bxw).trans d1, (hW.cell (p := ⟨wr.heap.size, 2, none⟩) bxw).trans d2, (hW.cell (p := ⟨wr.heap.size, 3, none⟩) bxw).trans d3, (hW.cell (p := ⟨wr.heap.size, 4, none⟩) bxw).trans d4, (hW.cell (p := ⟨wr.heap.size, 5, none⟩) bxw).trans d5, (hW.cell (p := ⟨wr.heap.size, 6, none⟩) bxw).trans d6, (hW.cell (p := ⟨wr.heap.size, 7, none⟩) bxw).trans d7⟩
          have HSF : Hid (∀ o1 o2 o3 o4 : Obj, _) := fun o1 o2 o3 o4 => hSF _ (B5 o1 o2 o3 o4)
          clear zc hgz hturn hmapz m5 B5 DA hSF
          go_region_held (fun W => W.cell? ⟨w.heap.size + 1, 0, none⟩ = some (.map (some w.heap.size)) ∧ W.cell? ⟨wr.heap.size, 0, none⟩ = some (.int .i64 x0) ∧ W.cell? ⟨wr.heap.size, 1, none⟩ = some (.string x1) ∧ W.cell? ⟨wr.heap.size, 2, none⟩ = some (.string x2) ∧ W.cell? ⟨wr.heap.size, 3, none⟩ = some (.string x3) ∧ W.cell? ⟨wr.heap.size, 4, none⟩ = some (.bool x4) ∧ W.cell? ⟨wr.heap.size, 5, none⟩ = some (.int .i64 x5) ∧ W.cell? ⟨wr.heap.size, 6, none⟩ = some (.int .i64 x6) ∧ W.cell? ⟨wr.heap.size, 7, none⟩ = some (.bool true)) (first | exact HSF.out _ _ _ _ | go_keep) (first | (go_at_call 11; refine (R _).mono ?_; rintro e w' ⟨rfl, rfl⟩))
          have HZM : Hid (wz.cell? ⟨w.heap.size + 1, 0, none⟩ = some (.map (some w.heap.size))) := zm
          clear z0 z1 z2 z3 z4 z5 z6 z7 zm d0 d1 d2 d3 d4 d5 d6 d7 dm hput hlk R m1 hmx
          go_wp2
          refine ⟨⟨k + 1, by omega, by go_num, BZ.out, HZM.out, ?_⟩, by simp [intOf]; omega⟩
          rw [lastF_take l k hlt, ← HX.out, HST.out, HMX.out]
          exact HMZ.out
      · have hst : stepF (lastF (l.take k)) x = lastF (l.take k) := by unfold stepF; rw [if_neg hgo]
        have HST : Hid (stepF (lastF (l.take k)) x = lastF (l.take k)) := hst
        clear hst hbd hrt hvs
        have hgo' : x.isGet = false ∨ (x.isGet = true ∧ x.ok = false) := by
          cases h1 : x.isGet <;> cases h2 : x.ok <;> simp_all
        clear hgo
        have hA : ∀ o : Obj, Del (wr.alloc o) (w.heap.size + 1) w.heap.size (k + 1) (lastF (l.take k)) := fun o => ⟨(HD.out.below ((Below.refl _ _).alloc (Nat.le_refl _) _)).cell, (HD.out.below ((Below.refl _ _).alloc (Nat.le_refl _) _)).map.mono (Nat.le_succ _)⟩
        have HA : Hid (∀ o : Obj, Del (wr.alloc o) (w.heap.size + 1) w.heap.size (k + 1) (lastF (l.take k))) := hA
        have hBA : Hid (∀ o : Obj, Below w.heap.size w (wr.alloc o)) := fun o => HB.out.alloc HB.out.size _
        clear hA
        obtain ⟨x0, x1, x2, x3, x4, x5, x6, x7⟩ := x
        obtain ⟨c0, c1, c2, c3, c4, c5, c6, c7⟩ := hL
        unfold Line.isGet at hgo'
        simp only at c0 c1 c2 c3 c4 c5 c6 c7 hgo' HST
        rcases hgo' with hg | ⟨hg, ho⟩
        · go_wp2
          refine ⟨⟨k + 1, by omega, by go_num, hBA.out _, ?_⟩, by simp [intOf]; omega⟩
          rw [lastF_take l k hlt, ← HX.out, HST.out]
          exact HA.out _
        · subst ho
          go_wp2
          refine ⟨⟨k + 1, by omega, by go_num, hBA.out _, ?_⟩, by simp [intOf]; omega⟩
          rw [lastF_take l k hlt, ← HX.out, HST.out]
          exact HA.out _
    · have hkm : k = l.length := by omega
      have hH1 := HHi.out.later hb hgw
      rw [hkm, List.take_length] at hD
      have D := delete_any l (lastF l) base g n c (w.heap.size + 1) w.heap.size l.length wr hn hln hlc hH1 hD HSz.out (by omega) (by omega)
      clear hb hD hH1 HD
      go_wp2_with fail
      refine D.mono ?_
      rintro e w2 ⟨rfl, hg2, hH2⟩
      have HG2 : Hid (wr.grownBy w2 (some g)) := hg2
      have HH2 : Hid (Hist w2 base g n (l.filter (keepF (lastF l)))) := hH2
      clear hg2 hH2 D
      go_wp2
      go_ret
      exact ⟨rfl, (grown_below HB.out _).trans HG2.out, HH2.out⟩
end Go.Proofs.Qxb6604392a
