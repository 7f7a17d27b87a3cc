import Derived.Test.Qxb6602030aClone
namespace Go.Proofs.Qxb6602030a
open Go.ChangeShapes Go.WideShapes Go.ChangeAt Go.RowKit
set_option linter.unusedVariables false

set_option maxHeartbeats 400000 in
/-- next at or past the end: it refuses. -/
theorem next_past (r : Nat) (a : Option Addr) (n ca : Nat) (pos c : Int) (w : World) (h : (n : Int) ≤ pos)
    (h0 : w.cell? ⟨r, 0, none⟩ = some (.slice a n ca)) (h1 : w.cell? ⟨r, 1, none⟩ = some (.int .i64 pos)) :
    Calls Try.prog 24 #[.pointer (some ⟨r, 0, none⟩), .int .u8 c] w fun e w' => e = .returned (.bool false) ∧ ∃ m, w' = w.drewN m := by
  have hd : decide (pos < (n : Int)) = false := decide_eq_false (by omega)
  go_enter Try.func24, Try.ntmps24
  go_wp2
  go_quiet (fail)
  go_wp2
  go_ret
  exact ⟨rfl, _, rfl⟩

set_option maxHeartbeats 400000 in
/-- next at another byte: it refuses. -/
theorem next_other (r b off n ca p : Nat) (z c : Int) (w : World) (h : p < n) (hne : z ≠ c)
    (h0 : w.cell? ⟨r, 0, none⟩ = some (.slice (some ⟨b, off, none⟩) n ca)) (h1 : w.cell? ⟨r, 1, none⟩ = some (.int .i64 p))
    (hc : w.cell? ⟨b, off + p, none⟩ = some (.int .u8 z)) :
    Calls Try.prog 24 #[.pointer (some ⟨r, 0, none⟩), .int .u8 c] w fun e w' => e = .returned (.bool false) ∧ ∃ m, w' = w.drewN m := by
  have hd : (p : Int) < (n : Int) := by omega
  have he : (z == c) = false := beq_eq_false_iff_ne.2 hne
  go_enter Try.func24, Try.ntmps24
  go_wp2
  go_quiet (fail)
  go_wp2
  go_ret
  exact ⟨rfl, _, rfl⟩

set_option maxHeartbeats 400000 in
/-- next at the byte: it is read. -/
theorem next_hit (r b off n ca p : Nat) (z : Int) (w : World) (h : p < n) (hn : n ≤ 4194304)
    (h0 : w.cell? ⟨r, 0, none⟩ = some (.slice (some ⟨b, off, none⟩) n ca)) (h1 : w.cell? ⟨r, 1, none⟩ = some (.int .i64 p))
    (hf : w.frozen? ⟨r, 1, none⟩ = false)
    (hc : w.cell? ⟨b, off + p, none⟩ = some (.int .u8 z)) :
    Calls Try.prog 24 #[.pointer (some ⟨r, 0, none⟩), .int .u8 z] w fun e w' => e = .returned (.bool true) ∧ ∃ m, w' = (w.setCell ⟨r, 1, none⟩ (.int .i64 (p + 1))).drewN m := by
  have hd : (p : Int) < (n : Int) := by omega
  have he : (z == z) = true := by simp
  go_enter Try.func24, Try.ntmps24
  go_wp2
  go_quiet (fail)
  go_wp2
  go_ret
  exact ⟨rfl, _, rfl⟩

theorem bdrew {B : Nat} {a w : World} (h : Below B a w) (n : Nat) : Below B a (w.drewN n) := ⟨h.os, h.tape, h.output, h.size, h.block⟩

set_option maxHeartbeats 400000 in
theorem zznext_past (a : Option Addr) (n ca : Nat) (pos d c : Int) (w : World) (h : (n : Int) ≤ pos) :
    Calls Try.prog 20 #[.slice a n ca, .int .i64 pos, .int .i64 d, .int .u8 c] w fun e w' => e = .returned (.tuple #[.bool false, .slice a n ca, .int .i64 pos, .int .i64 d]) ∧ Below w.heap.size w w' := by
  go_enter Try.func20, Try.ntmps20
  go_wp2_with fail
  refine (next_past w.heap.size a n ca pos c _ h (by simp) (by simp)).mono ?_
  rintro e w' ⟨rfl, m, rfl⟩
  go_wp2
  go_quiet (fail)
  go_wp2
  exact bodyPost_ret (v := .tuple #[.bool false, .slice a n ca, .int .i64 pos, .int .i64 d]) (by simp [results, Try.results20, go_sem]) rfl ⟨rfl, bdrew (bdrew ((Below.refl _ _).alloc (Nat.le_refl _) _) _) _⟩

set_option maxHeartbeats 400000 in
theorem zznext_other (b off n ca p : Nat) (d z c : Int) (w : World) (h : p < n) (hne : z ≠ c) (hb : b < w.heap.size)
    (hc : w.cell? ⟨b, off + p, none⟩ = some (.int .u8 z)) :
    Calls Try.prog 20 #[.slice (some ⟨b, off, none⟩) n ca, .int .i64 p, .int .i64 d, .int .u8 c] w fun e w' => e = .returned (.tuple #[.bool false, .slice (some ⟨b, off, none⟩) n ca, .int .i64 p, .int .i64 d]) ∧ Below w.heap.size w w' := by
  have hc' : ∀ o, (w.alloc o).cell? ⟨b, off + p, none⟩ = some (.int .u8 z) := fun o => (World.cell?_alloc_past (w := w) o b (off + p) hb).trans hc
  go_enter Try.func20, Try.ntmps20
  go_wp2_with fail
  refine (next_other w.heap.size b off n ca p z c _ h hne (by simp) (by simp) (hc' _)).mono ?_
  rintro e w' ⟨rfl, m, rfl⟩
  go_wp2
  go_quiet (fail)
  go_wp2
  exact bodyPost_ret (v := .tuple #[.bool false, .slice (some ⟨b, off, none⟩) n ca, .int .i64 p, .int .i64 d]) (by simp [results, Try.results20, go_sem]) rfl ⟨rfl, bdrew (bdrew ((Below.refl _ _).alloc (Nat.le_refl _) _) _) _⟩

set_option maxHeartbeats 400000 in
theorem zznext_hit (b off n ca p : Nat) (d z : Int) (w : World) (h : p < n) (hn : n ≤ 4194304) (hb : b < w.heap.size)
    (hc : w.cell? ⟨b, off + p, none⟩ = some (.int .u8 z)) :
    Calls Try.prog 20 #[.slice (some ⟨b, off, none⟩) n ca, .int .i64 p, .int .i64 d, .int .u8 z] w fun e w' => e = .returned (.tuple #[.bool true, .slice (some ⟨b, off, none⟩) n ca, .int .i64 (p + 1), .int .i64 d]) ∧ Below w.heap.size w w' := by
  have hc' : ∀ o, (w.alloc o).cell? ⟨b, off + p, none⟩ = some (.int .u8 z) := fun o => (World.cell?_alloc_past (w := w) o b (off + p) hb).trans hc
  go_enter Try.func20, Try.ntmps20
  go_wp2_with fail
  refine (next_hit w.heap.size b off n ca p z _ h hn (by simp) (by simp) (by simp) (hc' _)).mono ?_
  rintro e w' ⟨rfl, m, rfl⟩
  go_wp2
  go_quiet (fail)
  go_wp2
  exact bodyPost_ret (v := .tuple #[.bool true, .slice (some ⟨b, off, none⟩) n ca, .int .i64 (p + 1), .int .i64 d]) (by simp [results, Try.results20, go_sem]) rfl ⟨rfl, bdrew (bdrew ((Below.refl _ _).alloc (Nat.le_refl _) _) _) _⟩

/-- The three, with the position as the caller writes it. -/
theorem zznext_hit' (b off n ca p : Nat) (q d z : Int) (w : World) (hq : q = (p : Int)) (h : p < n) (hn : n ≤ 4194304) (hb : b < w.heap.size)
    (hc : w.cell? ⟨b, off + p, none⟩ = some (.int .u8 z)) :
    Calls Try.prog 20 #[.slice (some ⟨b, off, none⟩) n ca, .int .i64 q, .int .i64 d, .int .u8 z] w fun e w' => e = .returned (.tuple #[.bool true, .slice (some ⟨b, off, none⟩) n ca, .int .i64 (q + 1), .int .i64 d]) ∧ Below w.heap.size w w' := by
  subst hq; exact zznext_hit b off n ca p d z w h hn hb hc
theorem zznext_other' (b off n ca p : Nat) (q d z c : Int) (w : World) (hq : q = (p : Int)) (h : p < n) (hne : z ≠ c) (hb : b < w.heap.size)
    (hc : w.cell? ⟨b, off + p, none⟩ = some (.int .u8 z)) :
    Calls Try.prog 20 #[.slice (some ⟨b, off, none⟩) n ca, .int .i64 q, .int .i64 d, .int .u8 c] w fun e w' => e = .returned (.tuple #[.bool false, .slice (some ⟨b, off, none⟩) n ca, .int .i64 q, .int .i64 d]) ∧ Below w.heap.size w w' := by
  subst hq; exact zznext_other b off n ca p d z c w h hne hb hc
end Go.Proofs.Qxb6602030a
