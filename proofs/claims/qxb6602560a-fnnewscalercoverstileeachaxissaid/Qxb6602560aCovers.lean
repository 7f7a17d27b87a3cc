import Derived.Test.Qxb6602560aRows
import Derived.Test.Qxb6602560aDiv
import Derived.WalkKit
import Derived.ProofKit
import Derived.Below
import Derived.Deep.QuietTactic
import Derived.BigQuiet
import Derived.WalkLawsBesides
import Derived.Outline
import Derived.Laws.FloatArith
namespace Go.Proofs.Qxb6602560a
open Go.ChangeShapes Go.WideShapes Go.ChangeAt Go.RowKit
set_option linter.unusedVariables false

theorem Try.info53 : (Try.prog.info? 53).map (fun i => (i.zero, i.size, i.bytes)) = some (some (.agg #[.int .i64 0, .int .i64 0, .float .f32 0, .float .f32 0]), 4, 24) := by kernel_rfl

theorem bdrew {B : Nat} {a w : World} (h : Below B a w) (n : Nat) : Below B a (w.drewN n) := ⟨h.os, h.tape, h.output, h.size, h.block⟩

/-- A store of a float (the kit has it of integers, bools, pointers, slices and strings). -/
theorem run_store_float {P : Program} {w : World} {a : Addr} {m : Mode} (k : FloatKind) (n : Nat) : (store a (.float k n) m).run P w = stored P w a (.float k n) m := run_store P w a _ m rfl
attribute [local go_sem] run_store_float

/-- float32(n), and the quotient of two floats. -/
def f32 (n : Nat) : Nat := floatOfInt .f32 (n : Int)
def fdiv (x y : Nat) : Nat := (Ieee.single.div x y).getD 0

def cLo (n m i : Nat) : Nat := (i * n + m - 1) / m
def cHi (n m i : Nat) : Nat := (i + 1) * n / m
def cvHi (n m i : Nat) : Nat := if cHi n m i < cLo n m i then cLo n m i else cHi n m i
def cvWl (n m i : Nat) : Nat := if cHi n m i < cLo n m i then 1065353216 else fdiv (f32 (cLo n m i * m - i * n)) (f32 n)
def cvWh (n m i : Nat) : Nat := if cHi n m i < cLo n m i then 0 else fdiv (f32 ((i + 1) * n - cHi n m i * m)) (f32 n)

/-- The cover of sample i in its four cells. -/
def CovAt (w : World) (g n m i : Nat) : Prop :=
  w.cell? ⟨g, i * 4, none⟩ = some (.int .i64 (cLo n m i : Int)) ∧ w.cell? ⟨g, i * 4 + 1, none⟩ = some (.int .i64 (cvHi n m i : Int)) ∧
  w.cell? ⟨g, i * 4 + 2, none⟩ = some (.float .f32 (cvWl n m i)) ∧ w.cell? ⟨g, i * 4 + 3, none⟩ = some (.float .f32 (cvWh n m i))

/-- The quotient of two whole numbers as floats: near, at most 1 where it should be, zero where it should be. -/
theorem fdiv_spec (x n : Nat) (hx : x < 16777216) (hn1 : 1 ≤ n) (hn : n < 16777216) :
    floatBits .quo .f32 (floatOfInt .f32 (x : Int)) (floatOfInt .f32 (n : Int)) = some (fdiv (f32 x) (f32 n)) ∧
    ∃ c, Fl.Isp Ieee.single (fdiv (f32 x) (f32 n)) c ∧ c ≤ (x : Rat) / (n : Rat) + (2 * ((x : Rat) / (n : Rat) * Fl.ulp Ieee.single) + Fl.tiny Ieee.single) ∧
      (x : Rat) / (n : Rat) ≤ c + (2 * ((x : Rat) / (n : Rat) * Fl.ulp Ieee.single) + Fl.tiny Ieee.single) ∧ (x ≤ n → c ≤ 1) ∧ (x = 0 → c = 0) := by
  have hn0 : (1 : Rat) ≤ (n : Rat) := by exact_mod_cast hn1
  have hle : (x : Rat) / (n : Rat) ≤ (x : Rat) := by
    have h1 : (x : Rat) / (n : Rat) * (n : Rat) = (x : Rat) := Rat.div_mul_cancel (by grind)
    rcases Fl.lt_or_le' (x : Rat) ((x : Rat) / (n : Rat)) with h | h
    · exfalso
      have h2 : 0 ≤ (x : Rat) := Fl.cast_nn x
      have h3 := Rat.mul_lt_mul_of_pos_right h (show (0 : Rat) < (n : Rat) by grind)
      have h4 := Rat.mul_le_mul_of_nonneg_left hn0 h2
      grind
    · exact h
  have hb : (x : Rat) < Fl.p2 ((24 : Nat) : Int) := by rw [Fl.p2_nat]; exact Fl.cast_lt hx
  have h25 : Fl.p2 (((24 : Nat) : Int) + 1) ≤ Fl.p2 (Fl.topOf Ieee.single + 1) := Fl.p2_mono (by decide)
  rw [Fl.p2_succ] at h25
  obtain ⟨r, c, h1, h2, h3, h4, h5, h6⟩ := Fl.div_isp Fl.good_single (by decide) (Fl.of32 x hx) (Fl.of32 n hn) (by grind) (by grind)
  have hf : fdiv (f32 x) (f32 n) = r := by unfold fdiv f32; rw [h1]; rfl
  rw [hf]
  exact ⟨h1, c, h2, h3, h4, fun h => h5 (Fl.cast_le h), fun h => h6 (by rw [h]; rfl)⟩

theorem sc_other (W : World) (g x y : Nat) (v : Value) (h : x ≠ y) : (W.setCell ⟨g, x, none⟩ v).cell? ⟨g, y, none⟩ = W.cell? ⟨g, y, none⟩ := by
  apply World.cell?_setCell_other
  intro e; injection e with _ e1; exact h e1
theorem sc_same (W : World) (g x : Nat) (v u : Value) (h : W.cell? ⟨g, x, none⟩ = some u) : (W.setCell ⟨g, x, none⟩ v).cell? ⟨g, x, none⟩ = some v := by
  apply World.cell?_setCell_same; exact h

theorem set4 (W : World) (g o : Nat) (a b c d v0 v1 v2 v3 : Value) (c0 : W.cell? ⟨g, o, none⟩ = some v0) (c1 : W.cell? ⟨g, o + 1, none⟩ = some v1) (c2 : W.cell? ⟨g, o + 2, none⟩ = some v2) (c3 : W.cell? ⟨g, o + 3, none⟩ = some v3) :
    ((((W.setCell ⟨g, o, none⟩ a).setCell ⟨g, o + 1, none⟩ b).setCell ⟨g, o + 2, none⟩ c).setCell ⟨g, o + 3, none⟩ d).cell? ⟨g, o, none⟩ = some a ∧
    ((((W.setCell ⟨g, o, none⟩ a).setCell ⟨g, o + 1, none⟩ b).setCell ⟨g, o + 2, none⟩ c).setCell ⟨g, o + 3, none⟩ d).cell? ⟨g, o + 1, none⟩ = some b ∧
    ((((W.setCell ⟨g, o, none⟩ a).setCell ⟨g, o + 1, none⟩ b).setCell ⟨g, o + 2, none⟩ c).setCell ⟨g, o + 3, none⟩ d).cell? ⟨g, o + 2, none⟩ = some c ∧
    ((((W.setCell ⟨g, o, none⟩ a).setCell ⟨g, o + 1, none⟩ b).setCell ⟨g, o + 2, none⟩ c).setCell ⟨g, o + 3, none⟩ d).cell? ⟨g, o + 3, none⟩ = some d ∧
    (∀ j, j < o ∨ o + 4 ≤ j → ((((W.setCell ⟨g, o, none⟩ a).setCell ⟨g, o + 1, none⟩ b).setCell ⟨g, o + 2, none⟩ c).setCell ⟨g, o + 3, none⟩ d).cell? ⟨g, j, none⟩ = W.cell? ⟨g, j, none⟩) := by
  refine ⟨?_, ?_, ?_, ?_, fun j hj => ?_⟩
  · rw [sc_other _ _ _ _ _ (by omega), sc_other _ _ _ _ _ (by omega), sc_other _ _ _ _ _ (by omega)]
    exact sc_same _ _ _ _ _ c0
  · rw [sc_other _ _ _ _ _ (by omega), sc_other _ _ _ _ _ (by omega)]
    exact sc_same _ _ _ _ v1 (by rw [sc_other _ _ _ _ _ (by omega)]; exact c1)
  · rw [sc_other _ _ _ _ _ (by omega)]
    exact sc_same _ _ _ _ v2 (by rw [sc_other _ _ _ _ _ (by omega), sc_other _ _ _ _ _ (by omega)]; exact c2)
  · exact sc_same _ _ _ _ v3 (by rw [sc_other _ _ _ _ _ (by omega), sc_other _ _ _ _ _ (by omega), sc_other _ _ _ _ _ (by omega)]; exact c3)
  · rw [sc_other _ _ _ _ _ (by omega), sc_other _ _ _ _ _ (by omega), sc_other _ _ _ _ _ (by omega), sc_other _ _ _ _ _ (by omega)]

/-- What holds of the array of covers when k of them are laid. -/
structure CRel (w : World) (n m k : Nat) (wr : World) : Prop where
  hex : ∀ j, j < m * 4 → ∃ v, wr.cell? ⟨w.heap.size, j, none⟩ = some v
  hfz : ∀ j, wr.frozen? ⟨w.heap.size, j, none⟩ = false
  hcov : ∀ j, j < k → CovAt wr w.heap.size n m j
  hb : Below w.heap.size w wr
  hsz : w.heap.size < wr.heap.size

theorem CRel.step {w : World} {n m k : Nat} {wr : World} (h : CRel w n m k wr) (hk : k < m) (nq : Nat) {a b c d : Value} (ha : a = .int .i64 (cLo n m k : Int)) (hb : b = .int .i64 (cvHi n m k : Int)) (hc : c = .float .f32 (cvWl n m k)) (hd : d = .float .f32 (cvWh n m k)) :
    CRel w n m (k + 1) (((((wr.drewN nq).setCell ⟨w.heap.size, k * 4, none⟩ a).setCell ⟨w.heap.size, k * 4 + 1, none⟩ b).setCell ⟨w.heap.size, k * 4 + 2, none⟩ c).setCell ⟨w.heap.size, k * 4 + 3, none⟩ d) := by
  obtain ⟨v0, c0⟩ := h.hex (k * 4) (by omega)
  obtain ⟨v1, c1⟩ := h.hex (k * 4 + 1) (by omega)
  obtain ⟨v2, c2⟩ := h.hex (k * 4 + 2) (by omega)
  obtain ⟨v3, c3⟩ := h.hex (k * 4 + 3) (by omega)
  obtain ⟨s0, s1, s2, s3, so⟩ := set4 (wr.drewN nq) w.heap.size (k * 4) a b c d v0 v1 v2 v3 c0 c1 c2 c3
  refine ⟨fun j hj => ?_, fun j => ?_, fun j hj => ?_, ?_, ?_⟩
  · by_cases h1 : j < k * 4 ∨ k * 4 + 4 ≤ j
    · rw [so j h1]; exact h.hex j hj
    · rcases (show j = k * 4 ∨ j = k * 4 + 1 ∨ j = k * 4 + 2 ∨ j = k * 4 + 3 by omega) with rfl | rfl | rfl | rfl
      · exact ⟨_, s0⟩
      · exact ⟨_, s1⟩
      · exact ⟨_, s2⟩
      · exact ⟨_, s3⟩
  · simp only [World.frozen?_setCell]; exact h.hfz j
  · by_cases e : j = k
    · subst e
      exact ⟨by rw [s0, ha], by rw [s1, hb], by rw [s2, hc], by rw [s3, hd]⟩
    · obtain ⟨q0, q1, q2, q3⟩ := h.hcov j (by omega)
      exact ⟨(so _ (by omega)).trans q0, (so _ (by omega)).trans q1, (so _ (by omega)).trans q2, (so _ (by omega)).trans q3⟩
  · exact ((((bdrew h.hb nq).setCell (by exact Nat.le_refl _) _).setCell (by exact Nat.le_refl _) _).setCell (by exact Nat.le_refl _) _).setCell (by exact Nat.le_refl _) _
  · have := h.hsz; simpa [World.setCell] using this

set_option maxHeartbeats 1000000 in
theorem covers_any (n m : Nat) (w : World) (hn : n ≤ 65536) (hn1 : 1 ≤ n) (hm : m ≤ 65536) :
    Calls Try.prog 19 #[.int .i64 n, .int .i64 m] w fun e w' => e = .returned (.tuple #[.slice (some ⟨w.heap.size, 0, none⟩) m m, .float .f32 (fdiv (f32 m) (f32 n))]) ∧
      Below w.heap.size w w' ∧ w.heap.size < w'.heap.size ∧ ∀ i, i < m → CovAt w' w.heap.size n m i := by
  obtain ⟨i0, hi, hz0, hz1, hz2⟩ := info_parts Try.info53
  go_enter Try.func19, Try.ntmps19
  go_wp2_with (first | (at_make; refine wpList_make_full _ rfl _ _ 27 rfl w.heap.size 53 i0 _ 4 Try.underlying27 hi hz0 hz1 _ _ _ _ m rfl rfl (by omega) (by omega) ?c1 ?c2 ?c3 ?_) | go_in)
  case c1 => rw [hz2]; omega
  case c2 => unfold maxLen; omega
  case c3 => exact Nat.le_refl _
  intro w1 hown hgrow
  have hb := (Below.refl w.heap.size w).grown hgrow (Nat.le_refl _) (fun k e => by cases e)
  clear hgrow
  go_wp2
  go_loopw [16] (fun i wr => ∃ k : Nat, k ≤ m ∧ i = .int .i64 k ∧ CRel w n m k wr) (fun i _ => m - (intOf i).toNat)
  case atStart =>
    refine ⟨0, Nat.zero_le _, rfl, fun j hj => ?_, fun j => hown.frozenAt j, fun j hj => by omega, hb, (hown.lt _ rfl).2⟩
    have hl := hown.1
    rw [hown.cellAt j hj]
    exact ⟨_, List.getElem?_eq_getElem (by omega)⟩
  case round =>
    clear hown hb
    obtain ⟨k, hk, rfl, hrel⟩ := hrel
    have HR := hrel
    obtain ⟨hex, hfz, hcov, hb, hsz⟩ := hrel
    by_cases hlt : k < m
    · obtain ⟨S, hS⟩ : ∃ S : Nat, S = k * n := ⟨_, rfl⟩
      obtain ⟨T, hT⟩ : ∃ T : Nat, T = (k + 1) * n := ⟨_, rfl⟩
      have hSb : S ≤ 65536 * 65536 := by rw [hS]; exact Nat.mul_le_mul (by omega) hn
      have hTb : T ≤ 65536 * 65536 := by rw [hT]; exact Nat.mul_le_mul (by omega) hn
      have eS : (k : Int) * (n : Int) = (S : Int) := by rw [hS]; exact (Int.natCast_mul k n).symm
      have eT : ((k : Int) + 1) * (n : Int) = (T : Int) := by rw [hT]; exact (Int.natCast_mul (k + 1) n).symm
      have hm0 : ((m : Int) == 0) = false := beq_eq_false_iff_ne.2 (by omega)
      have HE : Hid (∀ j, j < m * 4 → ∃ v, wr.cell? ⟨w.heap.size, j, none⟩ = some v) := hex
      clear hcov hex
      have HS : Hid (S = k * n) := hS
      have HT : Hid (T = (k + 1) * n) := hT
      clear hS hT
      obtain ⟨L, hL⟩ : ∃ L : Nat, L = (S + m - 1) / m := ⟨_, rfl⟩
      obtain ⟨H, hH⟩ : ∃ H : Nat, H = T / m := ⟨_, rfl⟩
      have eL : ((S : Int) + (m : Int) - 1) / (m : Int) = (L : Int) := by
        rw [hL, Int.natCast_ediv]; congr 1; omega
      have eH : (T : Int) / (m : Int) = (H : Int) := by rw [hH, Int.natCast_ediv]
      obtain ⟨v0, c0⟩ := HE.out (k * 4) (by omega)
      obtain ⟨v1, c1⟩ := HE.out (k * 4 + 1) (by omega)
      obtain ⟨v2, c2⟩ := HE.out (k * 4 + 2) (by omega)
      obtain ⟨v3, c3⟩ := HE.out (k * 4 + 3) (by omega)
      have hLb : L ≤ 131072 := by
        rw [hL]
        refine Nat.div_le_of_le_mul ?_
        have h1 : S ≤ m * 65536 := by rw [HS.out]; exact Nat.mul_le_mul (by omega) hn
        omega
      have hHb : H ≤ 65536 := by
        rw [hH]
        refine Nat.div_le_of_le_mul ?_
        rw [HT.out]; exact Nat.mul_le_mul (by omega) hn
      obtain ⟨LM, hLM⟩ : ∃ LM : Nat, LM = L * m := ⟨_, rfl⟩
      obtain ⟨HM, hHM⟩ : ∃ HM : Nat, HM = H * m := ⟨_, rfl⟩
      have eLM : (L : Int) * (m : Int) = (LM : Int) := by rw [hLM]; exact (Int.natCast_mul L m).symm
      have eHM : (H : Int) * (m : Int) = (HM : Int) := by rw [hHM]; exact (Int.natCast_mul H m).symm
      have hmpos : 0 < m := by omega
      have hSL : S ≤ LM ∧ LM ≤ S + m - 1 := by
        have h1 := Nat.div_add_mod (S + m - 1) m
        have h2 := Nat.mod_lt (S + m - 1) hmpos
        rw [← hL, Nat.mul_comm, ← hLM] at h1
        omega
      have hHT : HM ≤ T ∧ T < HM + m := by
        have h1 := Nat.div_add_mod T m
        have h2 := Nat.mod_lt T hmpos
        rw [← hH, Nat.mul_comm, ← hHM] at h1
        omega
      obtain ⟨hSL1, hSL2⟩ := hSL
      obtain ⟨hHT1, hHT2⟩ := hHT
      obtain ⟨X, hX⟩ : ∃ X : Nat, X = LM - S := ⟨_, rfl⟩
      obtain ⟨Y, hY⟩ : ∃ Y : Nat, Y = T - HM := ⟨_, rfl⟩
      have eX : (LM : Int) - (S : Int) = (X : Int) := by omega
      have eY : (T : Int) - (HM : Int) = (Y : Int) := by omega
      have hXb : X < 16777216 := by omega
      have hYb : Y < 16777216 := by omega
      have covL : cLo n m k = L := by rw [hL, HS.out]; rfl
      have covH : cHi n m k = H := by rw [hH, HT.out]; rfl
      have covX : cLo n m k * m - k * n = X := by rw [covL, hX, hLM, HS.out]
      have covY : (k + 1) * n - cHi n m k * m = Y := by rw [covH, hY, hHM, HT.out]
      have HV : Hid (cLo n m k = L ∧ cHi n m k = H ∧ cLo n m k * m - k * n = X ∧ (k + 1) * n - cHi n m k * m = Y) := ⟨covL, covH, covX, covY⟩
      clear hL hH hLM hHM hX hY covL covH covX covY
      by_cases hgt : H < L
      · go_wp2
        go_quiet (fail)
        go_wp2
        go_roundw
        case rel =>
          obtain ⟨q1, q2, q3, q4⟩ := HV.out
          exact ⟨k + 1, by omega, by go_num, HR.step hlt _ (by rw [q1]) (by unfold cvHi; rw [q1, q2, if_pos hgt]) (by unfold cvWl; rw [q1, q2, if_pos hgt]) (by unfold cvWh; rw [q1, q2, if_pos hgt])⟩
        case measure => simp [intOf]; omega
      · have d1 := fun W => run_float_arith (P := Try.prog) W .quo 28 .f32 _ _ _ (fdiv_spec X n hXb hn1 (by omega)).1
        have d2 := fun W => run_float_arith (P := Try.prog) W .quo 28 .f32 _ _ _ (fdiv_spec Y n hYb hn1 (by omega)).1
        go_wp2
        go_quiet (fail)
        go_wp2
        go_roundw
        case rel =>
          obtain ⟨q1, q2, q3, q4⟩ := HV.out
          exact ⟨k + 1, by omega, by go_num, HR.step hlt _ (by rw [q1]) (by unfold cvHi; rw [q1, q2, if_neg hgt]) (by unfold cvWl; rw [q3, q1, q2, if_neg hgt]) (by unfold cvWh; rw [q4, q1, q2, if_neg hgt])⟩
        case measure => simp [intOf]; omega
    · have hkm : k = m := by omega
      subst hkm
      have d3 := fun W => run_float_arith (P := Try.prog) W .quo 28 .f32 _ _ _ (fdiv_spec k n (by omega) hn1 (by omega)).1
      clear hex hfz hcov hb hsz
      go_wp2
      go_ret2
      exact ⟨rfl, HR.hb, HR.hsz, HR.hcov⟩
end Go.Proofs.Qxb6602560a
