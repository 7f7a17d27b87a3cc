import Derived.Test.Qxb6602560aClone
namespace Go.Proofs.Qxb6602560a
open Go.ChangeShapes Go.WideShapes Go.ChangeAt Go.RowKit
set_option linter.unusedVariables false
attribute [local go_sem] run_store_float

/-- The sum of t bytes from place lo on. -/
def sumB (l : List Nat) (lo : Nat) : Nat → Nat
  | 0 => 0
  | t + 1 => sumB l lo t + l.getD (lo + t) 0

theorem sumB_le (l : List Nat) (h : ∀ i, i < l.length → l.getD i 0 ≤ 255) (lo : Nat) : ∀ t, lo + t ≤ l.length → sumB l lo t ≤ 255 * t
  | 0, _ => Nat.le_refl _
  | t + 1, ht => by
    have h1 := sumB_le l h lo t (by omega)
    have h2 := h (lo + t) (by omega)
    show sumB l lo t + l.getD (lo + t) 0 ≤ _
    omega

/-- What scaleAcross computes for sample i: the value r, over the cover (lo, hi, wl, wh). -/
def Step (l : List Nat) (full lo hi wl wh r : Nat) : Prop :=
  ∃ v0 v1, floatBits .mul .f32 full (floatOfInt .f32 ((sumB l lo (hi - lo) : Nat) : Int)) = some v0 ∧
    ((FloatKind.f32.format.order wl 0 == some .gt) = false ∧ v1 = v0 ∨
      (FloatKind.f32.format.order wl 0 == some .gt) = true ∧ 1 ≤ lo ∧ lo - 1 < l.length ∧ ∃ p, floatBits .mul .f32 wl (floatOfInt .f32 ((l.getD (lo - 1) 0 : Nat) : Int)) = some p ∧ floatBits .add .f32 v0 p = some v1) ∧
    ((FloatKind.f32.format.order wh 0 == some .gt) = false ∧ r = v1 ∨
      (FloatKind.f32.format.order wh 0 == some .gt) = true ∧ hi < l.length ∧ ∃ p, floatBits .mul .f32 wh (floatOfInt .f32 ((l.getD hi 0 : Nat) : Int)) = some p ∧ floatBits .add .f32 v1 p = some r)

/-- What holds of out's array when k samples are laid; nothing else that was there has turned. -/
structure ARel (w : World) (g m k : Nat) (ov : Nat → Nat) (wr : World) : Prop where
  hex : ∀ j, j < m → ∃ v, wr.cell? ⟨g, j, none⟩ = some v
  hfz : ∀ j, wr.frozen? ⟨g, j, none⟩ = false
  hov : ∀ j, j < k → wr.cell? ⟨g, j, none⟩ = some (.float .f32 (ov j))
  hgr : w.grownBy wr (some g)

theorem grown_cell {w wr : World} {g : Nat} (h : w.grownBy wr (some g)) {b o : Nat} (hb : b < w.heap.size) (hne : b ≠ g) : wr.cell? ⟨b, o, none⟩ = w.cell? ⟨b, o, none⟩ := World.cell?_of_block (h.block b hb (fun e => hne (Option.some.inj e)))
theorem grown_drewN {w wr : World} {r : Option Nat} (h : w.grownBy wr r) (n : Nat) : w.grownBy (wr.drewN n) r := ⟨h.os, h.tape, h.output, h.size, h.block⟩
theorem grown_alloc {w wr : World} {r : Option Nat} (h : w.grownBy wr r) (o : Obj) : w.grownBy (wr.alloc o) r :=
  ⟨h.os, h.tape, h.output, by have := h.size; simp; omega, fun k hk hne => (Below.heap_alloc wr o k (Nat.lt_of_lt_of_le hk h.size)).trans (h.block k hk hne)⟩
theorem grown_set {w wr : World} {g : Nat} (h : w.grownBy wr (some g)) (o : Nat) (v : Value) : w.grownBy (wr.setCell ⟨g, o, none⟩ v) (some g) :=
  ⟨h.os, h.tape, h.output, by have := h.size; simpa [World.setCell] using this, fun k hk hne => (Below.heap_setCell wr _ v k (fun e => hne (by rw [e]))).trans (h.block k hk hne)⟩

theorem ARel.drewN {w : World} {g m k : Nat} {ov : Nat → Nat} {wr : World} (h : ARel w g m k ov wr) (n : Nat) : ARel w g m k ov (wr.drewN n) := ⟨h.hex, h.hfz, h.hov, grown_drewN h.hgr n⟩
theorem ARel.alloc {w : World} {g m k : Nat} {ov : Nat → Nat} {wr : World} (h : ARel w g m k ov wr) (hg : g < wr.heap.size) (o : Obj) : ARel w g m k ov (wr.alloc o) := by
  have hc : ∀ j, (wr.alloc o).cell? ⟨g, j, none⟩ = wr.cell? ⟨g, j, none⟩ := fun j => World.cell?_alloc_past (w := wr) o g j hg
  have hf : ∀ j, (wr.alloc o).frozen? ⟨g, j, none⟩ = wr.frozen? ⟨g, j, none⟩ := fun j => World.frozen?_of_block (w := wr) (Below.heap_alloc wr o g hg)
  exact ⟨fun j hj => by rw [hc]; exact h.hex j hj, fun j => by rw [hf]; exact h.hfz j, fun j hj => by rw [hc]; exact h.hov j hj, grown_alloc h.hgr o⟩
theorem ARel.set {w : World} {g m k : Nat} {ov : Nat → Nat} {wr : World} (h : ARel w g m k ov wr) (hk : k < m) {v : Value} (hv : v = .float .f32 (ov k)) : ARel w g m (k + 1) ov (wr.setCell ⟨g, k, none⟩ v) := by
  obtain ⟨u, hu⟩ := h.hex k hk
  refine ⟨fun j hj => ?_, fun j => ?_, fun j hj => ?_, grown_set h.hgr k v⟩
  · by_cases e : k = j
    · subst e; exact ⟨v, sc_same wr g k v u hu⟩
    · rw [sc_other _ _ _ _ _ e]; exact h.hex j hj
  · rw [World.frozen?_setCell]; exact h.hfz j
  · by_cases e : k = j
    · subst e; rw [sc_same wr g k v u hu, hv]
    · rw [sc_other _ _ _ _ _ e]; exact h.hov j (by omega)

set_option maxHeartbeats 1000000 in
/-- scaleAcross where nothing is scaled: each byte as a float. -/
theorem across_same (g co : Nat) (ar : Option Addr) (cr gx cx full : Nat) (l : List Nat) (w : World) (hl : l.length ≤ 65536) (hr : Row w ar l) (hgs : g < w.heap.size)
    (hne : ∀ b off, ar = some ⟨b, off, none⟩ → l ≠ [] → b ≠ g) (ao : Option Addr) (hao : 0 < l.length → ao = some ⟨g, 0, none⟩) (ax : Option Addr) (mx : Nat)
    (h0 : ARel w g l.length 0 (fun i => f32 (l.getD i 0)) w) :
    Calls Try.prog 20 #[.slice ao l.length co, .slice ar l.length cr, .slice ax mx cx, .float .f32 full] w fun e w' => e = .returned (.tuple #[]) ∧ ARel w g l.length l.length (fun i => f32 (l.getD i 0)) w' := by
  have he : ((l.length : Int) == (l.length : Int)) = true := by simp
  go_enter Try.func20, Try.ntmps20
  go_wp2
  go_loopw [23] (fun i wr => ∃ k : Nat, k ≤ l.length ∧ i = .int .i64 k ∧ ARel w g l.length k (fun i => f32 (l.getD i 0)) wr) (fun i _ => l.length - (intOf i).toNat)
  case atStart => exact ⟨0, Nat.zero_le _, rfl, h0⟩
  case round =>
    clear h0
    obtain ⟨k, hk, rfl, hrel⟩ := hrel
    by_cases hlt : k < l.length
    · obtain ⟨b, off, rfl, hb, hc⟩ := hr.2.resolve_left (by intro e; subst e; simp at hlt)
      have hbg := hne b off rfl (by intro e; subst e; simp at hlt)
      obtain rfl := hao (by omega)
      have c1 : wr.cell? ⟨b, off + k, none⟩ = some (.int .u8 ((l.getD k 0 : Nat) : Int)) := (grown_cell hrel.hgr hb hbg).trans (hc k hlt)
      obtain ⟨z, hz⟩ : ∃ z, z = l.getD k 0 := ⟨_, rfl⟩
      rw [← hz] at c1
      obtain ⟨u, c2⟩ := hrel.hex k hlt
      have f2 := hrel.hfz k
      have HR : ARel w g l.length (k + 1) (fun i => f32 (l.getD i 0)) (wr.setCell ⟨g, k, none⟩ (.float .f32 (floatOfInt .f32 (z : Int)))) := hrel.set hlt (by show _ = Value.float .f32 (f32 (l.getD k 0)); rw [← hz]; rfl)
      clear hc hz hao hne
      go_wp2
      go_roundw
      case rel => exact ⟨k + 1, by omega, by go_num, HR⟩
      case measure => simp [intOf]; omega
    · have hkl : k = l.length := by omega
      subst hkl
      go_wp2
      exact bodyPost_ret (v := .tuple #[]) (by simp [results, Try.results20]) rfl ⟨rfl, hrel⟩
end Go.Proofs.Qxb6602560a
