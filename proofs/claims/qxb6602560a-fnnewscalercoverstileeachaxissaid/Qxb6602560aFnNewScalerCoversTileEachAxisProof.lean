import Derived.Test.Qxb6602560aRows
import Derived.Test.Qxb6602560aScalerAll
import Derived.Test.Qxb6602560aOpen
import Derived.WalkKit
import Derived.ProofKit
import Derived.OpenShut
import Derived.ShutString
import Derived.ChangeOld
import Derived.Below
namespace Go.Proofs.Qxb6602560a.fnNewScalerCoversTileEachAxis
open Go.ChangeShapes Go.WideShapes Go.ChangeAt Go.RowKit
open Go.ChangeMaps (open_string shut_string)
set_option linter.unusedVariables false

/-- The walk: the Go text returns true and writes nothing that was there. -/
theorem walk (a0 : Int) (a1 : Int) (a2 : Int) (a3 : Option Addr) (len3 cap3 : Nat) (l3 : List Nat) (a4 : Int) (a5 : Int) (a6 : Int) (w : World) (hl3 : l3.length = len3) (w3 : Row w a3 l3) :
    Calls Try.prog 5 #[.int .i64 a0, .int .i64 a1, .int .u16 a2, .slice a3 len3 cap3, .int .i64 a4, .int .i64 a5, .int .i64 a6] w fun e w' => e = .returned (.bool true) ∧ Below w.heap.size w w' := by
  subst hl3
  by_cases hL : 1048576 < l3.length
  · exact law_large a0 a1 a2 a4 a5 a6 a3 _ cap3 w hL
  have hl : l3.length ≤ 1048576 := by omega
  by_cases hg : a0 < 1 ∨ a1 < 1 ∨ 65536 < a0 ∨ 65536 < a1
  · exact law_grid a0 a1 a2 a4 a5 a6 a3 _ cap3 w hl hg
  by_cases hf : a4 < 0 ∨ a5 < 0 ∨ 65536 < a4 ∨ 65536 < a5
  · exact law_frame a0 a1 a2 a4 a5 a6 a3 _ cap3 w hl (by omega) (by omega) (by omega) (by omega) hf
  obtain ⟨n, rfl⟩ := Int.eq_ofNat_of_zero_le (a := a0) (by omega)
  obtain ⟨h, rfl⟩ := Int.eq_ofNat_of_zero_le (a := a1) (by omega)
  obtain ⟨dw, rfl⟩ := Int.eq_ofNat_of_zero_le (a := a4) (by omega)
  obtain ⟨dh, rfl⟩ := Int.eq_ofNat_of_zero_le (a := a5) (by omega)
  by_cases hb : 1048576 < dw * dh ∨ 1073741824 < (n + h) * (dw + dh)
  · exact law_area n h dw dh a2 a6 a3 _ cap3 w hl (by omega) (by omega) (by omega) (by omega) (by omega) (by omega) _ _ rfl rfl hb
  by_cases ht : 5 ≤ a2 ∧ a2 ≤ 8
  · exact law_main_t scaler_said n h dw dh a2 a6 a3 l3 cap3 w hl w3 (by omega) (by omega) (by omega) (by omega) (by omega) (by omega) _ _ rfl rfl (Nat.le_of_not_lt fun x => hb (.inl x)) (Nat.le_of_not_lt fun x => hb (.inr x)) ht
  · exact law_main_p scaler_said n h dw dh a2 a6 a3 l3 cap3 w hl w3 (by omega) (by omega) (by omega) (by omega) (by omega) (by omega) _ _ rfl rfl (Nat.le_of_not_lt fun x => hb (.inl x)) (Nat.le_of_not_lt fun x => hb (.inr x)) ht

/-! ### THE ROW's STEP: WRITTEN OUT: LEAVE IT -/
set_option maxRecDepth 100000 in
theorem lifted (os : Os) (started : os.Started) (H : Type) (enc : TypeId × Value → H) :
    ReturnsInHanded {} Try.checked os 5 .any (Rows.fnNewScalerCoversTileEachAxisSpec.pre6 enc Try.prog Try.f5 Rows.fnNewScalerCoversTileEachAxisRow.domain false) (Rows.fnNewScalerCoversTileEachAxisSpec.post enc Try.prog Try.f5 false true false false) := by
  refine returnsInHanded_of_change (C := Try.checked) own started (by kernel_rfl) Try.func5
    (ChangeSpec.witness6 (enc := enc) (C := Try.checked) false ⟨#[], #[.int .i64 0, .int .i64 0, .int .u16 0, .slice none 0 0, .int .i64 0, .int .i64 0, .int .i64 0], []⟩ 8 (by kernel_rfl) (by kernel_rfl) (by kernel_rfl) (by kernel_rfl)) ?_
  intro W base args ds gs before hval0 hW hcnd _
  have hval : ∀ (j : Nat) t v, Try.f5.params[j]? = some t → args[j]? = some v → Value.okWide Try.prog W .any base t v := hval0
  have hW' := hW
  obtain ⟨p, q, hA0, hV, rfl, hfz, hnd⟩ := hW
  have hA : DataW.TrodAll enc Try.prog W 0 (fun _ => true) true Try.f5.params.toList args.toList ds p := hA0
  rw [Try.params5] at hA hval
  obtain ⟨v0, vs0, d0, ds0, p0, q0, hargs, rfl, rfl, h0, r0⟩ := trodAll_cons hA
  obtain ⟨v1, vs1, d1, ds1, p1, q1, rfl, rfl, rfl, h1, r1⟩ := trodAll_cons r0
  obtain ⟨v2, vs2, d2, ds2, p2, q2, rfl, rfl, rfl, h2, r2⟩ := trodAll_cons r1
  obtain ⟨v3, vs3, d3, ds3, p3, q3, rfl, rfl, rfl, h3, r3⟩ := trodAll_cons r2
  obtain ⟨v4, vs4, d4, ds4, p4, q4, rfl, rfl, rfl, h4, r4⟩ := trodAll_cons r3
  obtain ⟨v5, vs5, d5, ds5, p5, q5, rfl, rfl, rfl, h5, r5⟩ := trodAll_cons r4
  obtain ⟨v6, vs6, d6, ds6, p6, q6, rfl, rfl, rfl, h6, r6⟩ := trodAll_cons r5
  obtain ⟨rfl, rfl, rfl⟩ := trodAll_nil r6
  obtain rfl : args = #[v0, v1, v2, v3, v4, v5, v6] := by cases args; simp_all
  obtain ⟨rfl, rfl⟩ := trodVars_none hV
  obtain ⟨a0, rfl, rfl, rfl, w0⟩ := open_int Try.underlying3 (hval 0 3 v0 rfl rfl) h0
  obtain ⟨a1, rfl, rfl, rfl, w1⟩ := open_int Try.underlying3 (hval 1 3 v1 rfl rfl) h1
  obtain ⟨a2, rfl, rfl, rfl, w2⟩ := open_int Try.underlying34 (hval 2 34 v2 rfl rfl) h2
  obtain ⟨a3, len3, cap3, rfl⟩ := okWide_slice Try.underlying23 (hval 3 23 v3 rfl rfl)
  have k3 := h3
  have lt3 : ∀ x ∈ p3, x.block < W.heap.size := by obtain ⟨m, hm⟩ := k3; exact DataW.trod_lt m _ _ _ hm
  obtain ⟨l3, hl3, w3, _⟩ : ∃ l : List Nat, l.length = len3 ∧ Row W a3 l ∧ len3 ≤ maxLen := by
    obtain ⟨fuel, hf⟩ := h3
    exact open_bytes hf
  obtain ⟨a4, rfl, rfl, rfl, w4⟩ := open_int Try.underlying3 (hval 4 3 v4 rfl rfl) h4
  obtain ⟨a5, rfl, rfl, rfl, w5⟩ := open_int Try.underlying3 (hval 5 3 v5 rfl rfl) h5
  obtain ⟨a6, rfl, rfl, rfl, w6⟩ := open_int Try.underlying3 (hval 6 3 v6 rfl rfl) h6
  clear hA0 hval0
  refine (walk a0 a1 a2 a3 len3 cap3 l3 a4 a5 a6 W hl3 w3).mono fun e W' ⟨he, bel⟩ => ?_
  subst he
  exact ⟨_, rfl, _, _, _, [], _, [], hW', trodAll_mk1 (shut_bool Try.underlying4 _), (trodAll_cons_mk (shut_int Try.underlying3 w0) (trodAll_cons_mk (shut_int Try.underlying3 w1) (trodAll_cons_mk (shut_int Try.underlying34 w2) (trodAll_cons_mk (Below.trod laidOut (by kernel_rfl) (of_decide_eq_true (by kernel_rfl)) k3 bel lt3) (trodAll_cons_mk (shut_int Try.underlying3 w4) (trodAll_cons_mk (shut_int Try.underlying3 w5) (trodAll_cons_mk (shut_int Try.underlying3 w6) trodAll_mk0))))))), rfl, bel.frame _, fun h => by cases h⟩

theorem over : Rows.fnNewScalerCoversTileEachAxisRow.holds Try.pinned (OpenSpec.ofChange Rows.fnNewScalerCoversTileEachAxisSpec) :=
  OpenClaim.holds_of_wide 5 Try.f5 rfl rfl rfl rfl rfl rfl rfl ⟨rfl, rfl, rfl, rfl, rfl⟩ rfl rfl rfl rfl rfl (by kernel_rfl) Try.func5 (by kernel_rfl)
    (of_decide_eq_true (by kernel_rfl)) (by unfold Func.isWrapper; first | (rw [if_pos (by decide +kernel)]; kernel_rfl) | (rw [if_neg (by decide +kernel)]; exact ⟨rfl, rfl⟩))
    (fun os started H enc _ => lifted os started H enc)

/-- ████ THE STATEMENT ████ -/
theorem proved : Rows.FnNewScalerCoversTileEachAxisSaid := over
end Go.Proofs.Qxb6602560a.fnNewScalerCoversTileEachAxis
