import Derived.Test.Qxb6602560aRepMain
namespace Go.Proofs.Qxb6602560a
open Go.ChangeShapes Go.WideShapes Go.ChangeAt Go.RowKit
set_option linter.unusedVariables false

set_option maxHeartbeats 1000000 in
theorem rep_zero (a0 a3 : Option Addr) (c0 c3 : Nat) (l : List Nat) (w : World) (hn1 : 1 ≤ l.length) (hl : l.length ≤ 32768) (h0 : Cells w a0 0) (h3 : Row w a3 l) :
    Calls Try.prog 4 #[.slice a0 0 c0, .slice a3 l.length c3] w fun e w' => e = .returned (.bool true) ∧ Below w.heap.size w w' := by
  have hz : ((l.length : Int) == 0) = false := beq_eq_false_iff_ne.2 (by omega)
  have hz2 : ¬ l.length = 0 := by omega
  go_enter Try.func4, Try.ntmps4
  go_wp2_with (go_at_call 11; refine (zz11_true _ _ _ _ _ _ _ (by omega)).mono ?_; rintro e w' ⟨rfl, rfl⟩)
  refine (cloneF_any a0 0 c0 _ (by omega) h0).mono ?_
  rintro e w1 ⟨a1, c1, rfl, hb1, hF⟩
  clear hF
  go_wp2_with fail
  refine (cloneB_any a3 c3 l _ (by omega) (h3.later hb1)).mono ?_
  rintro e w2 ⟨a2, c2, rfl, hr2, hb2, hc2, hc2b, hfr⟩
  go_wp2_with fail
  refine (zzcovers_any l.length 0 _ (by omega) hn1 (by omega)).mono ?_
  rintro e w3 ⟨rfl, hb3, hs3, hcov⟩
  have B3 : Below w.heap.size w w3 := (hb1.trans (hb2.mono hb1.size)).trans (hb3.mono (Nat.le_trans hb1.size hb2.size))
  clear hcov hr2 hb1 hb2 hb3 hfr h0 h3
  go_wp2_with fail
  refine (zzacross _ _ _ _ _ (across_zero a1 c1 a2 l.length c2 _ 0 _ w3)).mono ?_
  rintro e w4 ⟨rfl, rfl⟩
  go_wp2
  refine wp_loop_rounds 1 ?_
  rw [rounds_succ]
  go_wp2
  go_ret
  exact ⟨rfl, B3⟩

/-- The whole walk of FnScaleAcrossRepeatsEachSampleOnWholeUpscale. -/
theorem rep_any (a0 a3 : Option Addr) (m c0 c3 : Nat) (l : List Nat) (w : World) (hm : m ≤ maxLen) (hl : l.length ≤ maxLen) (h0 : Cells w a0 m) (h3 : Row w a3 l) :
    Calls Try.prog 4 #[.slice a0 m c0, .slice a3 l.length c3] w fun e w' => e = .returned (.bool true) ∧ Below w.heap.size w w' := by
  by_cases hbig : 1048576 < m + l.length
  · exact rep_big _ _ _ _ _ _ _ hbig hm hl
  by_cases hlong : 32768 < m ∨ 32768 < l.length
  · exact rep_long _ _ _ _ _ _ _ (by omega) hlong
  by_cases hn : l.length = 0
  · rw [hn]; exact rep_nil _ _ _ _ _ _ (by omega)
  by_cases hr : m % l.length = 0
  · by_cases hm0 : m = 0
    · subst hm0; exact rep_zero a0 a3 c0 c3 l w (by omega) (by omega) h0 h3
    · have hk : m = m / l.length * l.length := (Nat.div_mul_cancel (Nat.dvd_of_mod_eq_zero hr)).symm
      rw [hk] at h0 ⊢
      exact rep_main a0 a3 c0 c3 l.length (m / l.length) l w rfl (Nat.div_pos (Nat.le_of_dvd (by omega) (Nat.dvd_of_mod_eq_zero hr)) (by omega)) (by omega) (by omega) (by omega) h0 h3
  · exact rep_rest _ _ _ _ _ _ _ (by omega) (by omega) (by omega) hr
end Go.Proofs.Qxb6602560a
