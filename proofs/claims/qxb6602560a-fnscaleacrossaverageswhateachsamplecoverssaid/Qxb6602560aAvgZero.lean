import Derived.Test.Qxb6602560aAvgMain
namespace Go.Proofs.Qxb6602560a
open Go.ChangeShapes Go.WideShapes Go.ChangeAt Go.RowKit
set_option linter.unusedVariables false

/-- 0 / 0: some NaN, drawn from the tape. -/
theorem nan_run : ∃ f : World → Nat, ∀ W, (binOp .quo 28 (.float .f32 (floatOfInt .f32 0)) (.float .f32 (floatOfInt .f32 0))).run Try.prog W = .ok (.float .f32 (f W)) W.drew := by
  have h : FloatKind.f32.format.div (floatOfInt .f32 0) (floatOfInt .f32 0) = none := by decide
  have hq : (Question.nanBits .f32 (floatOfInt .f32 0) (floatOfInt .f32 0)).forced = false := by rfl
  refine ⟨fun W => (Question.nanBits .f32 (floatOfInt .f32 0) (floatOfInt .f32 0)).cut (W.tape W.drawn (.nanBits .f32 (floatOfInt .f32 0) (floatOfInt .f32 0))), fun W => ?_⟩
  simp [binOp, Op.floatArith, h, hq]

set_option maxHeartbeats 400000 in
theorem covers_nil (w : World) :
    Calls Try.prog 19 #[.int .i64 0, .int .i64 0] w fun e w' => ∃ full, e = .returned (.tuple #[.slice (some ⟨w.heap.size, 0, none⟩) 0 0, .float .f32 full]) ∧ Below w.heap.size w w' := by
  obtain ⟨i0, hi, hz0, hz1, hz2⟩ := info_parts Try.info53
  obtain ⟨f, hf⟩ := nan_run
  go_enter Try.func19, Try.ntmps19
  go_wp2_with (first | (at_make; refine wpList_make_full _ rfl _ _ 27 rfl w.heap.size 53 i0 _ 4 Try.underlying27 hi hz0 hz1 _ _ _ _ 0 rfl rfl (by omega) (by omega) ?c1 ?c2 ?c3 ?_) | go_in)
  case c1 => omega
  case c2 => unfold maxLen; omega
  case c3 => exact Nat.le_refl _
  intro w1 hown hgrow
  have hb := (Below.refl w.heap.size w).grown hgrow (Nat.le_refl _) (fun k e => by cases e)
  clear hgrow hown
  go_wp2
  refine wp_loop_rounds 1 ?_
  rw [rounds_succ]
  go_wp2
  go_ret2
  exact ⟨_, rfl, hb.drew⟩

set_option maxHeartbeats 400000 in
theorem zzcovers_nil (w : World) :
    Calls Try.prog 9 #[.int .i64 0, .int .i64 0] w fun e w' => ∃ full, e = .returned (.tuple #[.slice (some ⟨w.heap.size, 0, none⟩) 0 0, .float .f32 full]) ∧ Below w.heap.size w w' := by
  go_enter Try.func9, Try.ntmps9
  go_wp2_with fail
  refine (covers_nil _).mono ?_
  rintro e w1 ⟨full, rfl, h1⟩
  go_wp2
  go_ret2
  exact ⟨full, rfl, h1⟩

set_option maxHeartbeats 1000000 in
theorem avg_zero (a0 a3 : Option Addr) (c0 c3 : Nat) (l : List Nat) (w : World) (hn1 : 1 ≤ l.length) (hl : l.length ≤ 32768) (h0 : Cells w a0 0) (h3 : Row w a3 l) :
    Calls Try.prog 3 #[.slice a0 0 c0, .slice a3 l.length c3] w fun e w' => e = .returned (.bool true) ∧ Below w.heap.size w w' := by
  have hz : ((l.length : Int) == 0) = false := beq_eq_false_iff_ne.2 (by omega)
  obtain ⟨i0, hi, hz0, hz1, hz2⟩ := info_parts Try.info2
  go_enter Try.func3, Try.ntmps3
  go_wp2_with (go_at_call 6; refine (zz6_true _ _ _ _ _ _ _ (by omega)).mono ?_; rintro e w' ⟨rfl, rfl⟩)
  refine (cloneF_any a0 0 c0 _ (by omega) h0).mono ?_
  rintro e w1 ⟨a1, c1, rfl, hb1, hF⟩
  clear hF
  go_wp2_with fail
  refine (cloneB_any a3 c3 l _ (by omega) (h3.later hb1)).mono ?_
  rintro e w2 ⟨a2, c2, rfl, hr2, hb2, hc2, hc2b, hfr⟩
  go_wp2_with fail
  refine (zzcovers_any l.length 0 _ (by omega) hn1 (by omega)).mono ?_
  rintro e w3 ⟨rfl, hb3, hs3, hcov⟩
  have B3 : Below w.heap.size w w3 := (hb1.trans (hb2.mono hb1.size)).trans (hb3.mono (Nat.le_trans hb1.size hb2.size))
  clear hcov hr2 hb1 hb2 hb3 hfr h0 h3
  go_wp2_with fail
  refine (zzacross _ _ _ _ _ (across_zero a1 c1 a2 l.length c2 _ 0 _ w3)).mono ?_
  rintro e w4 ⟨rfl, rfl⟩
  go_wp2_with (first | (at_make; refine wpList_make_full _ rfl _ _ 32 rfl w3.heap.size 2 i0 (.int .i64 0) 1 Try.underlying32 hi hz0 hz1 _ _ _ _ 0 rfl rfl (by omega) (by omega) ?c1 ?c2 ?c3 ?_) | go_in)
  case c1 => omega
  case c2 => unfold maxLen; omega
  case c3 => exact Nat.le_refl _
  intro w5 hown hgrow
  have hb5 := (Below.refl w3.heap.size w3).grown hgrow (Nat.le_refl _) (fun k e => by cases e)
  have hbel5 : Below w.heap.size w w5 := B3.trans (hb5.mono B3.size)
  clear hown hgrow hb5 B3
  go_wp2
  refine wp_loop_rounds 1 ?_
  rw [rounds_succ]
  go_wp2
  refine wp_loop_rounds 1 ?_
  rw [rounds_succ]
  go_wp2
  go_ret
  exact ⟨rfl, hbel5⟩

set_option maxHeartbeats 1000000 in
theorem avg_nil (a0 a3 : Option Addr) (c0 c3 : Nat) (w : World) (h0 : Cells w a0 0) (h3 : Row w a3 []) :
    Calls Try.prog 3 #[.slice a0 0 c0, .slice a3 0 c3] w fun e w' => e = .returned (.bool true) ∧ Below w.heap.size w w' := by
  obtain ⟨i0, hi, hz0, hz1, hz2⟩ := info_parts Try.info2
  go_enter Try.func3, Try.ntmps3
  go_wp2_with (go_at_call 6; refine (zz6_true _ _ _ _ _ _ _ (by omega)).mono ?_; rintro e w' ⟨rfl, rfl⟩)
  refine (cloneF_any a0 0 c0 _ (by omega) h0).mono ?_
  rintro e w1 ⟨a1, c1, rfl, hb1, hF⟩
  clear hF
  go_wp2_with fail
  refine (cloneB_any a3 c3 [] _ (by simp) (h3.later hb1)).mono ?_
  rintro e w2 ⟨a2, c2, rfl, hr2, hb2, hc2, hc2b, hfr⟩
  go_wp2_with fail
  refine (zzcovers_nil _).mono ?_
  rintro e w3 ⟨full, rfl, hb3⟩
  have B3 : Below w.heap.size w w3 := (hb1.trans (hb2.mono hb1.size)).trans (hb3.mono (Nat.le_trans hb1.size hb2.size))
  clear hr2 hb1 hb2 hb3 hfr h0 h3
  go_wp2_with fail
  refine (zzacross _ _ _ _ _ (across_zero a1 c1 a2 0 c2 _ 0 _ w3)).mono ?_
  rintro e w4 ⟨rfl, rfl⟩
  go_wp2_with (first | (at_make; refine wpList_make_full _ rfl _ _ 32 rfl w3.heap.size 2 i0 (.int .i64 0) 1 Try.underlying32 hi hz0 hz1 _ _ _ _ 0 rfl rfl (by omega) (by omega) ?c1 ?c2 ?c3 ?_) | go_in)
  case c1 => omega
  case c2 => unfold maxLen; omega
  case c3 => exact Nat.le_refl _
  intro w5 hown hgrow
  have hb5 := (Below.refl w3.heap.size w3).grown hgrow (Nat.le_refl _) (fun k e => by cases e)
  have hbel5 : Below w.heap.size w w5 := B3.trans (hb5.mono B3.size)
  clear hown hgrow hb5 B3
  go_wp2
  refine wp_loop_rounds 1 ?_
  rw [rounds_succ]
  go_wp2
  refine wp_loop_rounds 1 ?_
  rw [rounds_succ]
  go_wp2
  go_ret
  exact ⟨rfl, hbel5⟩

/-- The whole walk of FnScaleAcrossAveragesWhatEachSampleCovers. -/
theorem avg_any (a0 a3 : Option Addr) (m c0 c3 : Nat) (l : List Nat) (w : World) (hm : m ≤ maxLen) (hl : l.length ≤ maxLen) (h0 : Cells w a0 m) (h3 : Row w a3 l) :
    Calls Try.prog 3 #[.slice a0 m c0, .slice a3 l.length c3] w fun e w' => e = .returned (.bool true) ∧ Below w.heap.size w w' := by
  by_cases hbig : 1048576 < m + l.length
  · exact avg_big _ _ _ _ _ _ _ hbig hm hl
  by_cases hlong : 32768 < m ∨ 32768 < l.length
  · exact avg_long _ _ _ _ _ _ _ (by omega) hlong
  by_cases hn : l.length = 0
  · obtain rfl : l = [] := List.eq_nil_of_length_eq_zero hn
    by_cases hm0 : m = 0
    · subst hm0; exact avg_nil a0 a3 c0 c3 w h0 h3
    · exact avg_norow _ _ _ _ _ _ (by omega) (by omega)
  · by_cases hm0 : m = 0
    · subst hm0; exact avg_zero a0 a3 c0 c3 l w (by omega) (by omega) h0 h3
    · exact avg_main a0 a3 c0 c3 m l w (by omega) (by omega) (by omega) (by omega) h0 h3
end Go.Proofs.Qxb6602560a
