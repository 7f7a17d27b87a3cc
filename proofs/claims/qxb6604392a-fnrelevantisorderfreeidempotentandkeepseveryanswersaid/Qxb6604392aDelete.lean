import Derived.Test.Qxb6604392aIndex
import Derived.Maps.AppendAt
import Derived.Laws.IdiomCopy
namespace Go.Proofs.Qxb6604392a
open Go.ChangeShapes Go.WideShapes Go.ChangeAt Go.RowKit Go.Maps
set_option linter.unusedVariables false

theorem grown_below {w w' : World} (h : Below w.heap.size w w') (row : Option Nat) : w.grownBy w' row := ⟨h.os, h.tape, h.output, h.size, fun i hi _ => h.block i hi⟩

theorem grown_set (w : World) (g o : Nat) (v : Value) : w.grownBy (w.setCell ⟨g, o, none⟩ v) (some g) :=
  ⟨rfl, rfl, rfl, by simp [World.setCell], fun i _ hne => Below.heap_setCell w ⟨g, o, none⟩ v i (fun e => hne (by rw [e]))⟩

theorem grown_put8 (w : World) (g o : Nat) (x : Line) : w.grownBy (put8 w g o x) (some g) := by
  unfold put8
  exact ((((((((grown_set w g o _).trans (grown_set _ g _ _)).trans (grown_set _ g _ _)).trans (grown_set _ g _ _)).trans (grown_set _ g _ _)).trans (grown_set _ g _ _)).trans (grown_set _ g _ _)).trans (grown_set _ g _ _))

theorem grown_setCells (g : Nat) : ∀ (vs : List Value) (o : Nat) (w : World), w.grownBy (w.setCells g o vs) (some g)
  | [], _, w => World.grownBy.refl w _
  | v :: r, o, w => (grown_set w g o v).trans (grown_setCells g r (o + 1) (w.setCell ⟨g, o, none⟩ v))

theorem Del.kept {w w' : World} {bm b N g : Nat} {f : Bool → ByteArray → Option Int} (h : Del w bm b N f) (hg : w.grownBy w' (some g)) (h1 : bm ≠ g) (h2 : b ≠ g) : Del w' bm b N f :=
  ⟨hg.cell h.cell (fun e => h1 (by injection e)), h.map.of (hg.block b h.map.lt (fun e => h2 (by injection e)))⟩

def zeroLine : Array Value := #[.int .i64 0, .string ⟨#[]⟩, .string ⟨#[]⟩, .string ⟨#[]⟩, .bool false, .int .i64 0, .int .i64 0, .bool false]

theorem zeros_length (m : Nat) : (Builtin.zeroCells zeroLine m).toList.length = m * 8 := by
  simp [Builtin.zeroCells, zeroLine]

theorem zeros_one (m : Nat) : ∀ v ∈ (Builtin.zeroCells zeroLine m).toList, v.oneCell' = true := by
  intro v hv
  simp only [Builtin.zeroCells, Array.toList_map, List.mem_map] at hv
  obtain ⟨i, _, rfl⟩ := hv
  have h8 : i % zeroLine.size < 8 := Nat.mod_lt _ (by decide)
  generalize i % zeroLine.size = q at h8
  have : q = 0 ∨ q = 1 ∨ q = 2 ∨ q = 3 ∨ q = 4 ∨ q = 5 ∨ q = 6 ∨ q = 7 := by omega
  rcases this with rfl | rfl | rfl | rfl | rfl | rfl | rfl | rfl <;> rfl

theorem run_clear (w : World) (g o m c : Nat) (hm : 0 < m) (hc : ∀ j, j < m * 8 → ∃ v, w.cell? ⟨g, o + j, none⟩ = some v) (hf : ∀ j, w.frozen? ⟨g, j, none⟩ = false) (ty : TypeId) :
    (Builtin.clear_ #[24] ty #[.slice (some ⟨g, o, none⟩) m c]).run Try.prog w = .ok (.tuple #[]) (w.setCells g o (Builtin.zeroCells zeroLine m).toList) := by
  have hst := run_storeCells_cells (P := Try.prog) g o (Builtin.zeroCells zeroLine m).toList 0 w (fun j hj => by rw [zeros_length] at hj; obtain ⟨v, hv⟩ := hc j hj; simp [hv]) (fun j _ => hf _) (zeros_one m)
  simp only [Nat.add_zero] at hst
  obtain ⟨k, rfl⟩ : ∃ k, m = k + 1 := ⟨m - 1, by omega⟩
  unfold zeroLine at hst ⊢
  simp [Builtin.clear_, run_underlying Try.underlying24, Value.cells, hst]

theorem Hist.clear {w : World} {base g n : Nat} {l : List Line} (h : Hist w base g n l) (o m : Nat) (ho : o = l.length * 8) (hm : l.length + m ≤ n) : Hist (w.setCells g o (Builtin.zeroCells zeroLine m).toList) base g n l := by
  subst ho
  have hg := grown_setCells g (Builtin.zeroCells zeroLine m).toList (l.length * 8) w
  have hcl : ∀ j, j < l.length * 8 → (w.setCells g (l.length * 8) (Builtin.zeroCells zeroLine m).toList).cell? ⟨g, j, none⟩ = w.cell? ⟨g, j, none⟩ := fun j hj =>
    World.cell?_setCells_out g _ _ w ⟨g, j, none⟩ (fun _ _ => .inl hj)
  refine ⟨h.lo, Nat.lt_of_lt_of_le h.hi hg.size, fun j hj => ?_, fun j => by rw [World.frozen?_setCells]; exact h.fz j, fun i hi => (h.at_ i hi).of fun j h1 h2 => hcl j (by omega), h.len⟩
  by_cases e : j < l.length * 8 ∨ l.length * 8 + m * 8 ≤ j
  · rw [World.cell?_setCells_out g _ _ w ⟨g, j, none⟩ (fun _ _ => by rw [zeros_length]; exact e)]
    exact h.ex j hj
  · have h2 : j - l.length * 8 < (Builtin.zeroCells zeroLine m).toList.length := by rw [zeros_length]; omega
    have := World.cell?_setCells_in g (Builtin.zeroCells zeroLine m).toList (l.length * 8) w (fun q hq => by rw [zeros_length] at hq; obtain ⟨v, hv⟩ := h.ex (l.length * 8 + q) (by omega); simp [hv]) (j - l.length * 8) h2
    rw [show l.length * 8 + (j - l.length * 8) = j by omega] at this
    exact ⟨_, this⟩

/-- The state of DeleteFunc's loop. -/
structure Mid (w : World) (base g n i j : Nat) (l : List Line) (f : Bool → ByteArray → Option Int) (wr : World) : Prop where
  grown : w.grownBy wr (some g)
  hist : Hist wr base g n ((l.take j).filter (keepF f))
  rest : ∀ t, j ≤ t → ∀ h : t < l.length, LineAt wr g (t * 8) l[t]
  cnt : i = ((l.take j).filter (keepF f)).length
  lt : i < j

theorem take_filter (l : List Line) (k : Line → Bool) (j : Nat) (h : j < l.length) : (l.take (j + 1)).filter k = (l.take j).filter k ++ (if k l[j] then [l[j]] else []) := by
  rw [List.take_succ_eq_append_getElem h, List.filter_append]
  congr 1
  by_cases e : k l[j] = true <;> simp [e]

set_option maxHeartbeats 2000000 in
set_option maxRecDepth 100000 in
theorem delete_any (l : List Line) (f : Bool → ByteArray → Option Int) (base g n c bm b N : Nat) (w : World) (hn : l.length ≤ 4096) (hln : l.length ≤ n) (hlc : l.length ≤ c) (hH : Hist w base g n l) (hD : Del w bm b N f) (hs : ∀ o ∈ l, o.left.2.size ≤ maxLen) (hne1 : bm ≠ g) (hne2 : b ≠ g) :
    Calls Try.prog 12 #[.slice (some ⟨g, 0, none⟩) l.length c, .func (.func 13) #[] #[.pointer (some ⟨bm, 0, none⟩)]] w fun e w' => e = .returned (.slice (some ⟨g, 0, none⟩) (l.filter (keepF f)).length c) ∧ w.grownBy w' (some g) ∧ Hist w' base g n (l.filter (keepF f)) := by
  have I := index_any l f base g n c bm b N w hn hH hD hs
  have HHi : Hid (Hist w base g n l) := hH
  have HD : Hid (Del w bm b N f) := hD
  have HSz : Hid (∀ o ∈ l, o.left.2.size ≤ maxLen) := hs
  clear hH hD hs
  go_enter Try.func12, Try.ntmps12
  go_wp2_with fail
  refine I.mono ?_
  rintro e w1 ⟨r, rfl, hb1, ⟨rfl, hall⟩ | ⟨i, rfl, hi, hdrop, hall⟩⟩
  · have HA : Hid (∀ o ∈ l, keepF f o = true) := hall
    have HB : Hid (Below w.heap.size w w1) := hb1
    clear hall hb1 I
    go_wp2
    go_ret
    have hf : l.filter (keepF f) = l := List.filter_eq_self.2 HA.out
    rw [hf]
    exact ⟨rfl, grown_below HB.out _, HHi.out.later HB.out HHi.out.hi⟩
  · have hfi : (l.take i).filter (keepF f) = l.take i := List.filter_eq_self.2 hall
    have hM : Hid (Mid w base g n i (i + 1) l f w1) := by
      have hH1 := HHi.out.later hb1 HHi.out.hi
      have hf2 : (l.take (i + 1)).filter (keepF f) = l.take i := by
        rw [take_filter l _ i hi, hfi, hdrop hi]; simp
      refine ⟨grown_below hb1 _, ?_, fun t _ h => hH1.at_ t h, by rw [hf2]; simp; omega, by omega⟩
      rw [hf2]
      exact ⟨hH1.lo, hH1.hi, hH1.ex, hH1.fz, fun q hq => by rw [List.getElem_take]; exact hH1.at_ q _, by simp; omega⟩
    clear hall hdrop hb1 hfi I
    have hneg : ((i : Int) == -1) = false := beq_eq_false_iff_ne.2 (by omega)
    go_wp2
    go_loopw [5, 6] (fun i5 i6 wr => ∃ i j : Nat, i5 = .int .i64 i ∧ i6 = .int .i64 j ∧ j ≤ l.length ∧ Mid w base g n i j l f wr) (fun _ i6 _ => l.length - (intOf i6).toNat)
    case atStart => exact ⟨i, i + 1, rfl, by go_num, by omega, hM.out⟩
    case round =>
      clear hM hneg hi
      obtain ⟨i, j, rfl, rfl, hj, hmid⟩ := hrel
      have HM : Hid (Mid w base g n i j l f wr) := hmid
      have hij := hmid.lt
      have hin : i < n := by omega
      by_cases hlt : j < l.length
      · have hL := hmid.rest j (Nat.le_refl _) hlt
        have D1 := HD.out.kept hmid.grown hne1 hne2
        have gW := hmid.hist.hi
        clear hmid
        obtain ⟨x, hx⟩ : ∃ x, x = l[j] := ⟨_, rfl⟩
        rw [← hx] at hL
        have HX : Hid (x = l[j]) := hx
        have T := drop_any x f bm b N (wr.alloc (.cells x.cells 30)) (D1.below ((Below.refl _ _).alloc (Nat.le_refl _) _)).cell (D1.below ((Below.refl _ _).alloc (Nat.le_refl _) _)).map (by rw [hx]; exact HSz.out _ (List.getElem_mem hlt))
        clear hx D1
        obtain ⟨q, hq⟩ : ∃ q, keepF f x = q := ⟨_, rfl⟩
        rw [hq] at T
        have HQ : Hid (keepF f x = q) := hq
        clear hq
        obtain ⟨x0, x1, x2, x3, x4, x5, x6, x7⟩ := x
        obtain ⟨c0, c1, c2, c3, c4, c5, c6, c7⟩ := hL
        simp only [Line.cells] at c0 c1 c2 c3 c4 c5 c6 c7 T
        go_wp2_with fail
        refine T.mono ?_
        rintro e w2 ⟨rfl, hb2⟩
        have hA : Below wr.heap.size wr (wr.alloc (.cells #[.int .i64 x0, .string x1, .string x2, .string x3, .bool x4, .int .i64 x5, .int .i64 x6, .bool x7] 30)) := (Below.refl _ _).alloc (Nat.le_refl _) _
        have hb : Below wr.heap.size wr w2 := hA.trans (hb2.mono hA.size)
        have hnew : w2.heap[wr.heap.size]? = some (.cells #[.int .i64 x0, .string x1, .string x2, .string x3, .bool x4, .int .i64 x5, .int .i64 x6, .bool x7] 30 (0, 0)) := (hb2.block _ (by simp)).trans (heap_alloc_new _ _)
        have d0 : w2.cell? ⟨wr.heap.size, 0, none⟩ = some (.int .i64 x0) := by rw [cell_of_row _ _ 0 _ 30 (0, 0) hnew]; rfl
        have d1 : w2.cell? ⟨wr.heap.size, 1, none⟩ = some (.string x1) := by rw [cell_of_row _ _ 1 _ 30 (0, 0) hnew]; rfl
        have d2 : w2.cell? ⟨wr.heap.size, 2, none⟩ = some (.string x2) := by rw [cell_of_row _ _ 2 _ 30 (0, 0) hnew]; rfl
        have d3 : w2.cell? ⟨wr.heap.size, 3, none⟩ = some (.string x3) := by rw [cell_of_row _ _ 3 _ 30 (0, 0) hnew]; rfl
        have d4 : w2.cell? ⟨wr.heap.size, 4, none⟩ = some (.bool x4) := by rw [cell_of_row _ _ 4 _ 30 (0, 0) hnew]; rfl
        have d5 : w2.cell? ⟨wr.heap.size, 5, none⟩ = some (.int .i64 x5) := by rw [cell_of_row _ _ 5 _ 30 (0, 0) hnew]; rfl
        have d6 : w2.cell? ⟨wr.heap.size, 6, none⟩ = some (.int .i64 x6) := by rw [cell_of_row _ _ 6 _ 30 (0, 0) hnew]; rfl
        have d7 : w2.cell? ⟨wr.heap.size, 7, none⟩ = some (.bool x7) := by rw [cell_of_row _ _ 7 _ 30 (0, 0) hnew]; rfl
        have H2 : Mid w base g n i j l f w2 := ⟨HM.out.grown.trans (grown_below hb _), HM.out.hist.later hb gW, fun t h1 h2 => (HM.out.rest t h1 h2).later hb gW, HM.out.cnt, HM.out.lt⟩
        have HM2 : Hid (Mid w base g n i j l f w2) := H2
        clear hnew hA hb2 hb T HM c0 c1 c2 c3 c4 c5 c6 c7
        have hex := H2.hist.ex
        have hfz := H2.hist.fz
        clear H2
        obtain ⟨v0, e0⟩ := hex (i * 8) (by omega)
        obtain ⟨v1, e1⟩ := hex (i * 8 + 1) (by omega)
        obtain ⟨v2, e2⟩ := hex (i * 8 + 2) (by omega)
        obtain ⟨v3, e3⟩ := hex (i * 8 + 3) (by omega)
        obtain ⟨v4, e4⟩ := hex (i * 8 + 4) (by omega)
        obtain ⟨v5, e5⟩ := hex (i * 8 + 5) (by omega)
        obtain ⟨v6, e6⟩ := hex (i * 8 + 6) (by omega)
        obtain ⟨v7, e7⟩ := hex (i * 8 + 7) (by omega)
        clear hex
        have gw2 : i * 8 + 8 ≤ j * 8 := by omega
        cases q
        · go_wp2
          have hf2 : (l.take (j + 1)).filter (keepF f) = (l.take j).filter (keepF f) := by
            rw [take_filter l _ j hlt, ← HX.out, HQ.out]; simp
          refine ⟨⟨i, j + 1, rfl, by go_num, by omega, HM2.out.grown, by rw [hf2]; exact HM2.out.hist, fun t h1 h2 => HM2.out.rest t (by omega) h2, by rw [hf2]; exact HM2.out.cnt, by omega⟩, by simp [intOf]; omega⟩
        · go_wp2
          have hf2 : (l.take (j + 1)).filter (keepF f) = (l.take j).filter (keepF f) ++ [⟨x0, x1, x2, x3, x4, x5, x6, x7⟩] := by
            rw [take_filter l _ j hlt, ← HX.out, HQ.out]; simp
          have M := HM2.out
          have hcnt := M.cnt
          refine ⟨⟨i + 1, j + 1, by go_num, by go_num, by omega, M.grown.trans (grown_put8 w2 g (i * 8) ⟨x0, x1, x2, x3, x4, x5, x6, x7⟩), ?_, fun t h1 h2 => (M.rest t (by omega) h2).of fun q h3 h4 => put8_out w2 g (i * 8) g q ⟨x0, x1, x2, x3, x4, x5, x6, x7⟩ (.inr (.inr (by omega))), by rw [hf2]; simp; omega, by omega⟩, by simp [intOf]; omega⟩
          rw [hf2]
          exact M.hist.push (by omega) i hcnt ⟨x0, x1, x2, x3, x4, x5, x6, x7⟩
      · have hjm : j = l.length := by omega
        have hf2 : (l.take j).filter (keepF f) = l.filter (keepF f) := by rw [hjm, List.take_length]
        have hcnt := hmid.cnt
        rw [hf2] at hcnt
        have hil : i < l.length := by omega
        have hex := hmid.hist.ex
        have hfz := hmid.hist.fz
        have hcl := fun ty => run_clear wr g (i * 8) (l.length - i) (c - i) (by omega) (fun q hq => hex (i * 8 + q) (by omega)) hfz ty
        have HC : Hid (i = (l.filter (keepF f)).length) := hcnt
        have HJ : Hid (j = l.length) := hjm
        have HF2 : Hid ((l.take j).filter (keepF f) = l.filter (keepF f)) := hf2
        clear hmid hex hfz hcnt hf2
        go_wp2
        go_ret
        have M := HM.out
        have hh := M.hist
        rw [HF2.out] at hh
        refine ⟨by rw [← HC.out]; rfl, M.grown.trans (grown_setCells g _ _ _), hh.clear (i * 8) (l.length - i) (by rw [HC.out]) (by rw [← HC.out]; omega)⟩
end Go.Proofs.Qxb6604392a
