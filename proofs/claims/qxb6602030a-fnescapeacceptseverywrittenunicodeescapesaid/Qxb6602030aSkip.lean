import Derived.Test.Qxb6602030aNext
namespace Go.Proofs.Qxb6602030a
open Go.ChangeShapes Go.WideShapes Go.ChangeAt Go.RowKit
set_option linter.unusedVariables false

/-- A byte of white space. -/
def Sp (c : Int) : Prop := c = 32 ∨ c = 9 ∨ c = 10 ∨ c = 13

theorem sp_or (c : Int) : Sp c ∨ ¬ Sp c := by unfold Sp; omega

/-- From p on: white space up to e, and no further. -/
def Sk (l : List Int) (p e : Nat) : Prop :=
  p ≤ e ∧ (∀ i, p ≤ i → i < e → i < l.length ∧ Sp (l.getD i 0)) ∧ (e < l.length → ¬ Sp (l.getD e 0))

theorem sk_from (l : List Int) (p : Nat) : ∀ (g m : Nat), l.length ≤ m + g → p ≤ m → (∀ i, p ≤ i → i < m → i < l.length ∧ Sp (l.getD i 0)) → ∃ e, Sk l p e
  | 0, m, h, hp, hm => ⟨m, hp, hm, by omega⟩
  | g + 1, m, h, hp, hm => by
    by_cases hc : m < l.length
    · rcases sp_or (l.getD m 0) with hs | hs
      · refine sk_from l p g (m + 1) (by omega) (by omega) fun i h1 h2 => ?_
        by_cases e : i = m
        · subst e; exact ⟨hc, hs⟩
        · exact hm i h1 (by omega)
      · exact ⟨m, hp, hm, fun _ => hs⟩
    · exact ⟨m, hp, hm, by omega⟩

theorem sk_ex (l : List Int) (p : Nat) : ∃ e, Sk l p e := sk_from l p l.length p (by omega) (Nat.le_refl _) (fun i h1 h2 => by omega)

set_option maxHeartbeats 400000 in
theorem isjson_true (c : Int) (h : Sp c) (w : World) : Calls Try.prog 17 #[.int .u8 c] w fun e w' => e = .returned (.bool true) ∧ w = w' := by
  rcases h with rfl | rfl | rfl | rfl
  all_goals
    go_enter Try.func17, Try.ntmps17
    go_wp2
    go_ret
    exact ⟨rfl, rfl⟩

set_option maxHeartbeats 400000 in
theorem isjson_false (c : Int) (h : ¬ Sp c) (w : World) : Calls Try.prog 17 #[.int .u8 c] w fun e w' => e = .returned (.bool false) ∧ w = w' := by
  have h1 : (c == 32) = false := beq_eq_false_iff_ne.2 (by unfold Sp at h; omega)
  have h2 : (c == 9) = false := beq_eq_false_iff_ne.2 (by unfold Sp at h; omega)
  have h3 : (c == 10) = false := beq_eq_false_iff_ne.2 (by unfold Sp at h; omega)
  have h4 : (c == 13) = false := beq_eq_false_iff_ne.2 (by unfold Sp at h; omega)
  go_enter Try.func17, Try.ntmps17
  go_wp2
  go_ret
  exact ⟨rfl, rfl⟩

def posOf (r : Nat) (w : World) : Nat := ((w.cell? ⟨r, 1, none⟩).map (fun v => (intOf v).toNat)).getD 0

/-- What skipSpace keeps of the reader in block r: the slice, the position k, the depth. -/
structure Rd (r : Nat) (t d : Value) (k : Nat) (w0 w : World) : Prop where
  h0 : w.cell? ⟨r, 0, none⟩ = some t
  h1 : w.cell? ⟨r, 1, none⟩ = some (.int .i64 (k : Int))
  h2 : w.cell? ⟨r, 2, none⟩ = some d
  hf : w.frozen? ⟨r, 1, none⟩ = false
  hb : Below r w0 w

theorem Rd.drewN {r : Nat} {t d : Value} {k : Nat} {w0 w : World} (h : Rd r t d k w0 w) (n : Nat) : Rd r t d k w0 (w.drewN n) := ⟨h.h0, h.h1, h.h2, h.hf, bdrew h.hb n⟩

theorem Rd.step {r : Nat} {t d : Value} {k j : Nat} {w0 w : World} (h : Rd r t d k w0 w) : Rd r t d j w0 (w.setCell ⟨r, 1, none⟩ (.int .i64 (j : Int))) := by
  refine ⟨?_, ?_, ?_, ?_, h.hb.setCell (by exact Nat.le_refl _) _⟩
  · have := h.h0; go_simp
  · have := h.h1; go_simp
  · have := h.h2; go_simp
  · have := h.hf; simpa using this

theorem Rd.step' {r : Nat} {t d : Value} {k : Nat} {w0 w : World} (h : Rd r t d k w0 w) (n : Nat) : Rd r t d (k + 1) w0 ((w.drewN n).setCell ⟨r, 1, none⟩ (.int .i64 ((k : Int) + 1))) :=
  (h.drewN n).step (j := k + 1)

theorem Rd.pos {r : Nat} {t d : Value} {k : Nat} {w0 w : World} (h : Rd r t d k w0 w) : posOf r w = k := by
  unfold posOf; rw [h.h1]; simp [intOf]

set_option maxHeartbeats 1000000 in
theorem skip_any (r : Nat) (a : Option Addr) (c p e : Nat) (l : List Int) (d : Value) (w : World) (hl : l.length ≤ 4194304) (hr : Row w a l) (hp : p ≤ 9223372036854775807)
    (hrr : ∀ b off, a = some ⟨b, off, none⟩ → l ≠ [] → b < r) (hs : Sk l p e) (hrd : Rd r (.slice a l.length c) d p w w) :
    Calls Try.prog 23 #[.pointer (some ⟨r, 0, none⟩)] w fun en w' => en = .returned (.tuple #[]) ∧ Rd r (.slice a l.length c) d e w w' := by
  go_enter Try.func23, Try.ntmps23
  go_wp2
  go_loopw [2] (fun _ wr => ∃ k : Nat, p ≤ k ∧ k ≤ e ∧ Rd r (.slice a l.length c) d k w wr) (fun _ wr => e - posOf r wr)
  case atStart => exact ⟨p, Nat.le_refl _, hs.1, hrd⟩
  case round =>
    clear hrd
    obtain ⟨k, hk1, hk2, hrd⟩ := hrel
    obtain ⟨g0, g1, g2, gf, gb⟩ := hrd
    by_cases hlt : k < e
    · obtain ⟨q1, q2⟩ := hs.2.1 k hk1 hlt
      obtain ⟨b, off, rfl, hb, hc⟩ := hr.2.resolve_left (by intro e; subst e; simp at q1)
      have hbr := hrr b off rfl (by intro e; subst e; simp at q1)
      have c1 : wr.cell? ⟨b, off + k, none⟩ = some (.int .u8 (l.getD k 0)) := (gb.cell (p := ⟨b, off + k, none⟩) hbr).trans (hc k q1)
      generalize l.getD k 0 = z at c1 q2
      have HR : Rd r (.slice (some ⟨b, off, none⟩) l.length c) d k w wr := ⟨g0, g1, g2, gf, gb⟩
      have t1 : (k : Int) < (l.length : Int) := by omega
      clear hc
      rcases q2 with rfl | rfl | rfl | rfl
      all_goals
        go_wp2
        go_quiet (fail)
        go_wp2
        go_quiet (fail)
        go_wp2
        go_roundw
        case rel => exact ⟨k + 1, by omega, by omega, HR.step' _⟩
        case measure =>
          rw [HR.pos, (HR.step' _).pos]; omega
    · have hke : k = e := by omega
      subst hke
      have HR : Rd r (.slice a l.length c) d k w wr := ⟨g0, g1, g2, gf, gb⟩
      by_cases hkl : k < l.length
      · have hns := hs.2.2 hkl
        obtain ⟨b, off, rfl, hb, hc⟩ := hr.2.resolve_left (by intro e; subst e; simp at hkl)
        have hbr := hrr b off rfl (by intro e; subst e; simp at hkl)
        have c1 : wr.cell? ⟨b, off + k, none⟩ = some (.int .u8 (l.getD k 0)) := (gb.cell (p := ⟨b, off + k, none⟩) hbr).trans (hc k hkl)
        generalize l.getD k 0 = z at c1 hns
        have h1 : (z == 32) = false := beq_eq_false_iff_ne.2 (by unfold Sp at hns; omega)
        have h2 : (z == 9) = false := beq_eq_false_iff_ne.2 (by unfold Sp at hns; omega)
        have h3 : (z == 10) = false := beq_eq_false_iff_ne.2 (by unfold Sp at hns; omega)
        have h4 : (z == 13) = false := beq_eq_false_iff_ne.2 (by unfold Sp at hns; omega)
        have t1 : (k : Int) < (l.length : Int) := by omega
        clear hc
        go_wp2
        go_quiet (fail)
        go_wp2
        go_quiet (fail)
        go_wp2
        exact bodyPost_ret (v := .tuple #[]) (by simp [results, Try.results23]) rfl ⟨rfl, HR.drewN _⟩
      · have hd : decide ((k : Int) < (l.length : Int)) = false := decide_eq_false (by omega)
        have hd2 : decide (k < l.length) = false := decide_eq_false (by omega)
        go_wp2
        go_quiet (fail)
        go_wp2
        go_end0
        exact ⟨rfl, HR.drewN _⟩
end Go.Proofs.Qxb6602030a
