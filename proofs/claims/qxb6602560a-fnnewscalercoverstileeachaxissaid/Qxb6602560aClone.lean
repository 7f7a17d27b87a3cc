import Derived.Test.Qxb6602560aCovers
import Derived.Laws.CopyOwn
namespace Go.Proofs.Qxb6602560a
open Go.ChangeShapes Go.WideShapes Go.ChangeAt Go.RowKit
set_option linter.unusedVariables false

/-- The slice at address a holds the bytes l, in memory that is there. -/
def Row (w : World) (a : Option Addr) (l : List Nat) : Prop :=
  (∀ i, i < l.length → l.getD i 0 ≤ 255) ∧
  (l = [] ∨ ∃ b off, a = some ⟨b, off, none⟩ ∧ b < w.heap.size ∧ ∀ i, i < l.length → w.cell? ⟨b, off + i, none⟩ = some (.int .u8 ((l.getD i 0 : Nat) : Int)))

theorem Row.later {w w' : World} {a : Option Addr} {l : List Nat} (h : Row w a l) (hb : Below w.heap.size w w') : Row w' a l := by
  refine ⟨h.1, ?_⟩
  rcases h.2 with h2 | ⟨b, off, ha, hlt, hc⟩
  · exact .inl h2
  · exact .inr ⟨b, off, ha, Nat.lt_of_lt_of_le hlt hb.size, fun i hi => (hb.cell (p := ⟨b, off + i, none⟩) hlt).trans (hc i hi)⟩

/-- The cells of a slice that came in: they are there, one cell each. -/
def Cells (w : World) (a : Option Addr) (n : Nat) : Prop :=
  (a = none → n = 0) ∧ ∃ vs : List Value, vs.length = n ∧ (∀ v ∈ vs, v.oneCell' = true) ∧ (0 < n → ∃ x, a = some x ∧ ∀ j v, vs[j]? = some v → w.cell? (x.add j) = some v)

/-- A row of cells of the call's own, which may be written. -/
def Own (w : World) (base g n : Nat) : Prop := base ≤ g ∧ g < w.heap.size ∧ (∀ j, j < n → ∃ v, w.cell? ⟨g, j, none⟩ = some v) ∧ ∀ j, w.frozen? ⟨g, j, none⟩ = false

theorem q22 : ∀ (w : World) (a : Option Addr) (n c n' c' : Nat), (binOp .eql 22 (.slice a n c) (.slice none n' c')).run Try.prog w = .ok (.bool a.isNone) w :=
  fun w a n c n' c' => Lib.run_eql_slice_nil w _ _ a n c n' c' Try.underlying22
theorem q23 : ∀ (w : World) (a : Option Addr) (n c n' c' : Nat), (binOp .eql 23 (.slice a n c) (.slice none n' c')).run Try.prog w = .ok (.bool a.isNone) w :=
  fun w a n c n' c' => Lib.run_eql_slice_nil w _ _ a n c n' c' Try.underlying23
theorem Try.info5 : (Try.prog.info? 5).map (fun i => (i.zero, i.size, i.bytes)) = some (some (.int .u8 0), 1, 1) := by kernel_rfl
theorem Try.info28 : (Try.prog.info? 28).map (fun i => (i.zero, i.size, i.bytes)) = some (some (.float .f32 0), 1, 4) := by kernel_rfl
theorem Try.size5 : (Try.prog.info? 5).map (·.size) = some 1 := by kernel_rfl
theorem Try.size28 : (Try.prog.info? 28).map (·.size) = some 1 := by kernel_rfl

theorem splice_all {α : Type} (L cs : List α) (h : cs.length = L.length) : splice L 0 cs = cs := by
  unfold splice
  rw [List.take_zero, List.nil_append, Nat.zero_add, h, List.drop_length, List.append_nil]

theorem own_heap {w : World} {base e size g n : Nat} {xs : List Value} (h : w.ownsRow base e size (.slice (some ⟨g, 0, none⟩) n n) n xs) : w.heap[g]? = some (.cells xs.toArray e (0, 0)) ∧ base ≤ g := by
  rcases h.2 with ⟨h', _⟩ | ⟨g', cap', cur, h', hb, hg, _, _, hsz, htake⟩
  · simp at h'
  · simp only [Value.slice.injEq, Option.some.injEq, Addr.mk.injEq, and_true, true_and] at h'
    obtain ⟨rfl, rfl⟩ := h'
    rw [List.take_of_length_le (by simp; omega)] at htake
    subst htake
    exact ⟨by simpa using hg, hb⟩

set_option maxHeartbeats 400000 in
theorem cloneF_none (n c : Nat) (w : World) :
    Calls Try.prog 7 #[.slice none n c] w fun e w' => e = .returned (.slice none 0 0) ∧ w' = w := by
  have q := q22
  go_enter Try.func7, Try.ntmps7
  go_wp2
  go_ret
  exact ⟨rfl, rfl⟩

set_option maxHeartbeats 800000 in
theorem cloneF_some (x : Addr) (n c : Nat) (vs : List Value) (w : World) (hn : n ≤ 4194304) (hl : vs.length = n) (h1 : ∀ v ∈ vs, v.oneCell' = true) (hsrc : 0 < n → ∀ j v, vs[j]? = some v → w.cell? (x.add j) = some v) (hx : 0 < n → x.block < w.heap.size) :
    Calls Try.prog 7 #[.slice (some x) n c] w fun e w' => e = .returned (.slice (some ⟨w.heap.size, 0, none⟩) n n) ∧ Below w.heap.size w w' ∧ w'.heap[w.heap.size]? = some (.cells vs.toArray 28 (0, 0)) := by
  have q := q22
  obtain ⟨i0, hi, hz0, hz1, hz2⟩ := info_parts Try.info28
  go_enter Try.func7, Try.ntmps7
  go_wp2_with (first | (at_make; refine wpList_make_full _ rfl _ _ 22 rfl w.heap.size 28 i0 (.float .f32 0) 1 Try.underlying22 hi hz0 hz1 _ _ _ _ n rfl rfl (by omega) (by omega) ?c1 ?c2 ?c3 ?_) | go_in)
  case c1 => rw [hz2]; omega
  case c2 => unfold maxLen; omega
  case c3 => exact Nat.le_refl _
  intro w1 hown hgrow
  have hb := (Below.refl w.heap.size w).grown hgrow (Nat.le_refl _) (fun k e => by cases e)
  obtain ⟨cur, hxl, hh⟩ : ∃ cur : List Value, cur.length = n ∧ w1.heap[w.heap.size]? = some (.cells cur.toArray 28 (0, 0)) := ⟨_, by simpa using hown.1, (own_heap hown).1⟩
  have HH : Hid (w1.heap[w.heap.size]? = some (.cells cur.toArray 28 (0, 0))) := hh
  have HS : Hid (∀ j v, vs[j]? = some v → 0 < n → w1.cell? (x.add j) = some v) := fun j v hj h0 => by
    have h2 := hsrc h0 j v hj
    rw [hb.cell (p := x.add j) (World.block_lt_of_cell? _ _ h2)]; exact h2
  clear hown hgrow hh hsrc hx
  go_wp2_with (refine wpList_copy_splice rfl (.tmp 9) (.tmp 10) 22 22 rfl 28 Try.underlying22 Try.size28 _ _ n n n c rfl rfl w.heap.size 0 cur 28 HH.out vs ?d1 ?d2 ?d3 h1 w.heap.size w hb (Nat.le_refl _) ?_)
  case d1 => rw [hl]; exact (Nat.min_self n).symm
  case d2 => exact fun h0 j v hj => HS.out j v hj (by omega)
  case d3 => omega
  intro w2 hw2 hb2
  have HW : Hid (w2.heap[w.heap.size]? = some (.cells vs.toArray 28 (0, 0))) := by
    have := hw2.out
    rwa [splice_all cur vs (by omega)] at this
  clear hw2 HH HS hb
  go_wp2
  go_ret
  exact ⟨rfl, hb2, HW.out⟩

/-- zzCloneFloats: as many cells, in memory of its own. -/
theorem cloneF_any (a : Option Addr) (n c : Nat) (w : World) (hn : n ≤ 4194304) (h : Cells w a n) :
    Calls Try.prog 7 #[.slice a n c] w fun e w' => ∃ a' c', e = .returned (.slice a' n c') ∧ Below w.heap.size w w' ∧ (n = 0 ∨ (a' = some ⟨w.heap.size, 0, none⟩ ∧ Own w' w.heap.size w.heap.size n)) := by
  obtain ⟨hnone, vs, hl, h1, hc⟩ := h
  cases a with
  | none =>
    have h0 := hnone rfl
    exact (cloneF_none n c w).mono fun e w' ⟨he, hw⟩ => ⟨none, 0, by rw [he, h0], by subst hw; exact Below.refl _ _, .inl h0⟩
  | some x =>
    have hc' : 0 < n → ∀ j v, vs[j]? = some v → w.cell? (x.add j) = some v := fun h0 => by
      obtain ⟨y, hy, hcy⟩ := hc h0
      obtain rfl := Option.some.inj hy
      exact hcy
    refine (cloneF_some x n c vs w hn hl h1 hc' (fun h0 => ?_)).mono fun e w' ⟨he, hb, hh⟩ => ⟨_, n, he, hb, .inr ⟨rfl, Nat.le_refl _, lt_of_block hh, fun j hj => ?_, fun j => ?_⟩⟩
    · have hv : vs[0]? = some (vs[0]'(by omega)) := List.getElem?_eq_getElem _
      have := World.block_lt_of_cell? _ _ (hc' h0 0 _ hv)
      simpa [Addr.add] using this
    · rw [cell_of_row w' w.heap.size j _ 28 (0, 0) hh]
      exact ⟨vs[j]'(by omega), by simp [List.getElem?_eq_getElem (by omega : j < vs.length)]⟩
    · exact frozen_of_row w' w.heap.size j _ 28 hh

set_option maxHeartbeats 400000 in
theorem cloneB_none (n c : Nat) (w : World) :
    Calls Try.prog 8 #[.slice none n c] w fun e w' => e = .returned (.slice none 0 0) ∧ w' = w := by
  have q := q23
  go_enter Try.func8, Try.ntmps8
  go_wp2
  go_ret
  exact ⟨rfl, rfl⟩

set_option maxHeartbeats 800000 in
theorem cloneB_some (x : Addr) (n c : Nat) (vs : List Value) (w : World) (hn : n ≤ 4194304) (hl : vs.length = n) (h1 : ∀ v ∈ vs, v.oneCell' = true) (hsrc : 0 < n → ∀ j v, vs[j]? = some v → w.cell? (x.add j) = some v) :
    Calls Try.prog 8 #[.slice (some x) n c] w fun e w' => e = .returned (.slice (some ⟨w.heap.size, 0, none⟩) n n) ∧ Below w.heap.size w w' ∧ w'.heap[w.heap.size]? = some (.cells vs.toArray 5 (0, 0)) := by
  have q := q23
  obtain ⟨i0, hi, hz0, hz1, hz2⟩ := info_parts Try.info5
  go_enter Try.func8, Try.ntmps8
  go_wp2_with (first | (at_make; refine wpList_make_full _ rfl _ _ 23 rfl w.heap.size 5 i0 (.int .u8 0) 1 Try.underlying23 hi hz0 hz1 _ _ _ _ n rfl rfl (by omega) (by omega) ?c1 ?c2 ?c3 ?_) | go_in)
  case c1 => rw [hz2]; omega
  case c2 => unfold maxLen; omega
  case c3 => exact Nat.le_refl _
  intro w1 hown hgrow
  have hb := (Below.refl w.heap.size w).grown hgrow (Nat.le_refl _) (fun k e => by cases e)
  obtain ⟨cur, hxl, hh⟩ : ∃ cur : List Value, cur.length = n ∧ w1.heap[w.heap.size]? = some (.cells cur.toArray 5 (0, 0)) := ⟨_, by simpa using hown.1, (own_heap hown).1⟩
  have HH : Hid (w1.heap[w.heap.size]? = some (.cells cur.toArray 5 (0, 0))) := hh
  have HS : Hid (∀ j v, vs[j]? = some v → 0 < n → w1.cell? (x.add j) = some v) := fun j v hj h0 => by
    have h2 := hsrc h0 j v hj
    rw [hb.cell (p := x.add j) (World.block_lt_of_cell? _ _ h2)]; exact h2
  clear hown hgrow hh hsrc
  go_wp2_with (refine wpList_copy_splice rfl (.tmp 9) (.tmp 10) 23 23 rfl 5 Try.underlying23 Try.size5 _ _ n n n c rfl rfl w.heap.size 0 cur 5 HH.out vs ?d1 ?d2 ?d3 h1 w.heap.size w hb (Nat.le_refl _) ?_)
  case d1 => rw [hl]; exact (Nat.min_self n).symm
  case d2 => exact fun h0 j v hj => HS.out j v hj (by omega)
  case d3 => omega
  intro w2 hw2 hb2
  have HW : Hid (w2.heap[w.heap.size]? = some (.cells vs.toArray 5 (0, 0))) := by
    have := hw2.out
    rwa [splice_all cur vs (by omega)] at this
  clear hw2 HH HS hb
  go_wp2
  go_ret
  exact ⟨rfl, hb2, HW.out⟩

/-- zzCloneBytes: the same bytes, in memory of its own (or nil); what is not nil has room for just its bytes. -/
theorem cloneB_any (a : Option Addr) (c : Nat) (l : List Nat) (w : World) (hl : l.length ≤ 4194304) (h : Row w a l) :
    Calls Try.prog 8 #[.slice a l.length c] w fun e w' => ∃ a' c', e = .returned (.slice a' l.length c') ∧ Row w' a' l ∧ Below w.heap.size w w' ∧ l.length ≤ c' ∧ c' ≤ 4194304 ∧ ∀ b off, a' = some ⟨b, off, none⟩ → b = w.heap.size := by
  cases a with
  | none =>
    have h0 : l = [] := by
      rcases h.2 with h0 | ⟨b, off, e, _⟩
      · exact h0
      · cases e
    subst h0
    exact (cloneB_none _ c w).mono fun e w' ⟨he, hw⟩ => ⟨none, 0, he, ⟨h.1, .inl rfl⟩, by subst hw; exact Below.refl _ _, Nat.le_refl _, by omega, fun b off e => by cases e⟩
  | some x =>
    have hsrc : 0 < l.length → ∀ j v, (l.map fun z : Nat => Value.int .u8 (z : Int))[j]? = some v → w.cell? (x.add j) = some v := fun h0 j v hj => by
      rcases h.2 with e | ⟨b, off, e, _, hc⟩
      · subst e; simp at h0
      · obtain rfl := Option.some.inj e
        rw [List.getElem?_map] at hj
        obtain ⟨z, hz, rfl⟩ := Option.map_eq_some_iff.1 hj
        have hjl := (List.getElem?_eq_some_iff.1 hz).1
        rw [add_plain, hc j hjl, List.getD_eq_getElem?_getD, hz]; rfl
    refine (cloneB_some x l.length c (l.map fun z : Nat => Value.int .u8 (z : Int)) w hl (by simp) (fun v hv => by obtain ⟨z, _, rfl⟩ := List.mem_map.1 hv; rfl) hsrc).mono fun e w' ⟨he, hb, hh⟩ => ⟨_, _, he, ⟨h.1, .inr ⟨_, 0, rfl, lt_of_block hh, fun j hj => ?_⟩⟩, hb, Nat.le_refl _, hl, fun b off e => by simp only [Option.some.injEq, Addr.mk.injEq, and_true] at e; omega⟩
    rw [Nat.zero_add, cell_of_row w' w.heap.size j _ 5 (0, 0) hh]
    simp [List.getElem?_eq_getElem hj]
end Go.Proofs.Qxb6602560a
