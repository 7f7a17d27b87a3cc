import Derived.Test.Qxb6604392aMap
namespace Go.Proofs.Qxb6604392a
open Go.ChangeShapes Go.WideShapes Go.ChangeAt Go.RowKit Go.Maps
set_option linter.unusedVariables false

theorem MapIs.alloc {w : World} {b N : Nat} {f : Bool → ByteArray → Option Int} (h : MapIs w b N f) (o : Obj) : MapIs (w.alloc o) b N f :=
  h.of (Below.heap_alloc w o b h.lt)
theorem MapIs.drew {w : World} {b N : Nat} {f : Bool → ByteArray → Option Int} (h : MapIs w b N f) : MapIs w.drew b N f := h

set_option maxHeartbeats 1000000 in
set_option maxRecDepth 20000 in
theorem drop_any (o : Line) (f : Bool → ByteArray → Option Int) (bm b N : Nat) (w : World) (hc : w.cell? ⟨bm, 0, none⟩ = some (.map (some b))) (hm : MapIs w b N f) (hs : o.left.2.size ≤ maxLen) :
    Calls Try.prog 13 #[.agg o.cells, .pointer (some ⟨bm, 0, none⟩)] w fun e w' => e = .returned (.bool (!keepF f o)) ∧ Below w.heap.size w w' := by
  have hbm : bm < w.heap.size := World.block_lt_of_cell? _ _ hc
  have hbm1 : bm < w.heap.size + 1 := by omega
  have hbm2 : bm < w.heap.size + 1 + 1 := by omega
  have hbm3 : bm < w.heap.size + 2 := by omega
  have hcA : ∀ A B C : Obj, (((w.alloc A).alloc B).alloc C).cell? ⟨bm, 0, none⟩ = some (.map (some b)) := fun A B C => by
    have h1 : Below w.heap.size w (((w.alloc A).alloc B).alloc C) := (((Below.refl _ _).alloc (Nat.le_refl _) _).alloc (by simp) _).alloc (by simp; omega) _
    exact (h1.cell (p := ⟨bm, 0, none⟩) hbm).trans hc
  have W14 : ∀ A : Obj, Calls Try.prog 14 #[.agg o.cells] (w.alloc A).drew fun e w' => e = .returned (.agg #[.bool o.left.1, .string o.left.2]) ∧ (((w.alloc A).alloc (.cells o.cells 30)).alloc (.cells #[.bool o.left.1, .string o.left.2] 37)).drew = w' := fun A => written_any o _
  have hlk : ∀ A B C : Obj, (Instr.lookup 35 (.map (some b)) (.agg #[.bool o.left.1, .string o.left.2]) true).run Try.prog (((w.alloc A).alloc B).alloc C).drew = .ok (.tuple #[.int .i64 ((f o.left.1 o.left.2).getD 0), .bool (f o.left.1 o.left.2).isSome]) (((w.alloc A).alloc B).alloc C).drew :=
    fun A B C => MapIs.look_ok (((hm.alloc A).alloc B).alloc C).drew _ _ hs
  have hB : ∀ A B C : Obj, Below w.heap.size w (((w.alloc A).alloc B).alloc C).drew := fun A B C => ((((Below.refl _ _).alloc (Nat.le_refl _) _).alloc (by simp) _).alloc (by simp; omega) _).drew
  have hcell : o.cells = #[.int .i64 o.client, .string o.kind, .string o.key, .string o.val, .bool o.found, .int .i64 o.call, .int .i64 o.ret, .bool o.ok] := rfl
  obtain ⟨r, hr⟩ : ∃ r, keepF f o = r := ⟨_, rfl⟩
  rw [hr]
  unfold keepF Line.isGet at hr
  clear hm hs
  generalize o.left.1 = lp at W14 hlk hr
  generalize o.left.2 = ls at W14 hlk hr
  generalize f lp ls = fo at hlk hr
  rw [hcell] at W14 ⊢
  clear hcell
  obtain ⟨a, kd, ky, v, fd, cl, rt, k⟩ := o
  simp only at W14 hr ⊢
  cases k
  · by_cases hg : (kd.toList == [103, 101, 116]) = true
    · rw [hg] at hr
      simp only [Bool.not_true, Bool.false_and, Bool.false_or] at hr
      subst hr
      go_enter Try.func13, Try.ntmps13
      go_wp2
      go_ret
      exact ⟨rfl, (Below.refl _ _).alloc (Nat.le_refl _) _⟩
    · have hg' : (kd.toList == [103, 101, 116]) = false := by simpa using hg
      rw [hg'] at hr
      clear hg
      cases fo with
      | none =>
        simp only [Bool.not_false, Bool.and_false, Bool.false_or] at hr
        subst hr
        simp only [Option.getD_none, Option.isSome_none] at hlk
        go_enter Try.func13, Try.ntmps13
        go_upto_region 5 with fail
        go_region_with (go_at_call 14; refine (W14 _).mono ?_; rintro e w' ⟨rfl, rfl⟩)
        all_goals
          go_wp2
          go_ret
          exact ⟨rfl, hB _ _ _⟩
      | some last =>
        simp only [Option.getD_some, Option.isSome_some] at hlk
        by_cases hl : last < cl
        · have hd : decide (last < cl) = true := by simpa using hl
          simp only [hd, Bool.not_false, Bool.not_true, Bool.and_false, Bool.false_or] at hr
          subst hr
          go_enter Try.func13, Try.ntmps13
          go_upto_region 5 with fail
          go_region_with (go_at_call 14; refine (W14 _).mono ?_; rintro e w' ⟨rfl, rfl⟩)
          all_goals
            go_wp2
            go_ret
            exact ⟨rfl, hB _ _ _⟩
        · have hd : decide (last < cl) = false := by simpa using hl
          simp only [hd, Bool.not_false, Bool.and_true, Bool.false_or] at hr
          subst hr
          go_enter Try.func13, Try.ntmps13
          go_upto_region 5 with fail
          go_region_with (go_at_call 14; refine (W14 _).mono ?_; rintro e w' ⟨rfl, rfl⟩)
          all_goals
            go_wp2
            go_ret
            exact ⟨rfl, hB _ _ _⟩
  · simp only [Bool.true_or] at hr
    subst hr
    go_enter Try.func13, Try.ntmps13
    go_wp2
    go_ret
    exact ⟨rfl, (Below.refl _ _).alloc (Nat.le_refl _) _⟩
end Go.Proofs.Qxb6604392a
