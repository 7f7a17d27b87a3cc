import Derived.Test.Qxb6602030aSame
namespace Go.Proofs.Qxb6602030a
open Go.ChangeShapes Go.WideShapes Go.ChangeAt Go.RowKit
set_option linter.unusedVariables false

theorem Try.info5 : (Try.prog.info? 5).map (fun i => (i.zero, i.size, i.bytes)) = some (some (.int .u8 0), 1, 1) := by kernel_rfl

theorem q22 : ∀ (w : World) (a : Option Addr) (n c n' c' : Nat), (binOp .eql 22 (.slice a n c) (.slice none n' c')).run Try.prog w = .ok (.bool a.isNone) w :=
  fun w a n c n' c' => Lib.run_eql_slice_nil w _ _ a n c n' c' Try.underlying22

theorem same_any (a b : Option Addr) (ca cb : Nat) (l : List Int) (w : World) (hl : l.length ≤ 4194304) (ha : Row w a l) (hb : Row w b l) :
    Calls Try.prog 14 #[.slice a l.length ca, .slice b l.length cb] w fun e w' => e = .returned (.bool true) ∧ ∃ m, w' = w.drewN m := by
  rcases ha.2 with rfl | ⟨b1, o1, rfl, _, h1⟩
  · exact same_nil a b ca cb w
  · rcases hb.2 with rfl | ⟨b2, o2, rfl, _, h2⟩
    · exact same_nil _ b ca cb w
    · exact same_some b1 o1 b2 o2 ca cb l w hl h1 h2

theorem Row.later {w w' : World} {a : Option Addr} {l : List Int} (h : Row w a l) (hb : Below w.heap.size w w') : Row w' a l := by
  refine ⟨h.1, ?_⟩
  rcases h.2 with h2 | ⟨b, off, ha, hlt, hc⟩
  · exact .inl h2
  · exact .inr ⟨b, off, ha, Nat.lt_of_lt_of_le hlt hb.size, fun i hi => (hb.cell (p := ⟨b, off + i, none⟩) hlt).trans (hc i hi)⟩

theorem Row.drewN {w : World} {a : Option Addr} {l : List Int} (h : Row w a l) (n : Nat) : Row (w.drewN n) a l := by
  refine ⟨h.1, ?_⟩
  rcases h.2 with h2 | ⟨b, off, ha, hlt, hc⟩
  · exact .inl h2
  · exact .inr ⟨b, off, ha, hlt, fun i hi => hc i hi⟩

theorem set_take {xs : List Value} {l : List Int} {k n : Nat} (hx : xs.length = n) (hk : k < n) (h : ∀ i, i < k → xs[i]? = some (.int .u8 (l.getD i 0))) :
    ∀ i, i < k + 1 → (xs.set k (.int .u8 (l.getD k 0)))[i]? = some (.int .u8 (l.getD i 0)) := by
  intro i hi
  by_cases e : i = k
  · subst e; rw [List.getElem?_set_self (by omega)]
  · rw [List.getElem?_set_ne (by omega)]; exact h i (by omega)

set_option maxHeartbeats 400000 in
theorem clone_none (n c : Nat) (w : World) :
    Calls Try.prog 10 #[.slice none n c] w fun e w' => e = .returned (.slice none 0 0) ∧ w' = w := by
  have q := q22
  go_enter Try.func10, Try.ntmps10
  go_wp2
  go_ret
  exact ⟨rfl, rfl⟩

set_option maxHeartbeats 400000 in
theorem clone_empty (x : Addr) (c : Nat) (w : World) :
    Calls Try.prog 10 #[.slice (some x) 0 c] w fun e w' => e = .returned (.slice (some ⟨w.heap.size, 0, none⟩) 0 0) ∧ Below w.heap.size w w' := by
  have q := q22
  obtain ⟨i0, hi, hz0, hz1, hz2⟩ := info_parts Try.info5
  go_enter Try.func10, Try.ntmps10
  go_wp2_with (first | (at_make; refine wpList_make_full _ rfl _ _ 22 rfl w.heap.size 5 i0 (.int .u8 0) 1 Try.underlying22 hi hz0 hz1 _ _ _ _ 0 rfl rfl (by omega) (by omega) ?c1 ?c2 ?c3 ?_) | go_in)
  case c1 => omega
  case c2 => unfold maxLen; omega
  case c3 => exact Nat.le_refl _
  intro w1 hown hgrow
  have hb := (Below.refl w.heap.size w).grown hgrow (Nat.le_refl _) (fun k e => by cases e)
  clear hown hgrow
  go_wp2
  refine wp_loop_rounds 1 ?_
  rw [rounds_succ]
  go_wp2
  go_ret
  exact ⟨rfl, hb⟩

set_option maxHeartbeats 800000 in
theorem clone_some (b off : Nat) (c : Nat) (l : List Int) (w : World) (hl : l.length ≤ 4194304) (hlt : b < w.heap.size)
    (h1 : ∀ i, i < l.length → w.cell? ⟨b, off + i, none⟩ = some (.int .u8 (l.getD i 0))) :
    Calls Try.prog 10 #[.slice (some ⟨b, off, none⟩) l.length c] w fun e w' => e = .returned (.slice (some ⟨w.heap.size, 0, none⟩) l.length l.length) ∧
      Below w.heap.size w w' ∧ w.heap.size < w'.heap.size ∧ ∀ i, i < l.length → w'.cell? ⟨w.heap.size, 0 + i, none⟩ = some (.int .u8 (l.getD i 0)) := by
  have q := q22
  obtain ⟨i0, hi, hz0, hz1, hz2⟩ := info_parts Try.info5
  go_enter Try.func10, Try.ntmps10
  go_wp2_with (first | (at_make; refine wpList_make_full _ rfl _ _ 22 rfl w.heap.size 5 i0 (.int .u8 0) 1 Try.underlying22 hi hz0 hz1 _ _ _ _ l.length rfl rfl (by omega) (by omega) ?c1 ?c2 ?c3 ?_) | go_in)
  case c1 => rw [hz2]; omega
  case c2 => unfold maxLen; omega
  case c3 => exact Nat.le_refl _
  intro w1 hown hgrow
  have hb := (Below.refl w.heap.size w).grown hgrow (Nat.le_refl _) (fun k e => by cases e)
  clear hgrow
  go_wp2
  go_loopw [4] (fun i wr => ∃ (k : Nat) (xs : List Value), k ≤ l.length ∧ i = .int .i64 k ∧ wr.ownsRow w.heap.size 5 1 (.slice (some ⟨w.heap.size, 0, none⟩) l.length l.length) l.length xs ∧ (∀ i, i < k → xs[i]? = some (.int .u8 (l.getD i 0))) ∧ Below w.heap.size w wr) (fun i _ => l.length - (intOf i).toNat)
  case atStart => exact ⟨0, _, Nat.zero_le _, rfl, hown, fun i hi => by omega, hb⟩
  case round =>
    clear hown hb
    obtain ⟨k, xs, hk, rfl, hown, hx, hb⟩ := hrel
    by_cases hlt : k < l.length
    · obtain ⟨z, hz⟩ : ∃ z, z = l.getD k 0 := ⟨_, rfl⟩
      have c1 : wr.cell? ⟨b, off + k, none⟩ = some (.int .u8 z) := by rw [hz]; exact (hb.cell (p := ⟨b, off + k, none⟩) (by assumption)).trans (h1 k hlt)
      have hxl : xs.length = l.length := by simpa using hown.1
      have c2 : wr.cell? ⟨w.heap.size, k, none⟩ = xs[k]? := hown.cellAt k (by omega)
      rw [List.getElem?_eq_getElem (by omega)] at c2
      have f2 := hown.frozenAt k
      have H1 : Hid ((wr.setCell ⟨w.heap.size, k, none⟩ (.int .u8 z)).ownsRow w.heap.size 5 1 (.slice (some ⟨w.heap.size, 0, none⟩) l.length l.length) l.length (xs.set k (.int .u8 z))) := (hown.stored k (.int .u8 z)).1
      have H2 : Hid (∀ i, i < k + 1 → (xs.set k (.int .u8 z))[i]? = some (.int .u8 (l.getD i 0))) := by subst hz; exact set_take hxl hlt hx
      have H3 : Hid (Below w.heap.size w (wr.setCell ⟨w.heap.size, k, none⟩ (.int .u8 z))) := hb.setCell (by exact Nat.le_refl _) _
      clear hx hz
      go_wp2
      go_roundw
      case rel => exact ⟨k + 1, _, by omega, by go_num, H1.out, H2.out, H3.out⟩
      case measure => simp [intOf]; omega
    · go_wp2
      go_ret
      have hke : k = l.length := by omega
      subst hke
      refine ⟨rfl, hb, ?_, fun i hi => ?_⟩
      · have := hown.lt w.heap.size rfl; omega
      · rw [Nat.zero_add, hown.cellAt i (by omega)]; exact hx i hi

/-- cloneBytes: the same bytes, in memory of its own (or nil). -/
theorem clone_any (a : Option Addr) (c : Nat) (l : List Int) (w : World) (hl : l.length ≤ 4194304) (h : Row w a l) :
    Calls Try.prog 10 #[.slice a l.length c] w fun e w' => ∃ a' c', e = .returned (.slice a' l.length c') ∧ Row w' a' l ∧ Below w.heap.size w w' := by
  rcases h.2 with rfl | ⟨b, off, rfl, hlt, hc⟩
  · cases a with
    | none => exact (clone_none _ c w).mono fun e w' ⟨he, hw⟩ => ⟨none, 0, he, ⟨h.1, .inl rfl⟩, by subst hw; exact Below.refl _ _⟩
    | some x => exact (clone_empty x c w).mono fun e w' ⟨he, hw⟩ => ⟨_, 0, he, ⟨h.1, .inl rfl⟩, hw⟩
  · exact (clone_some b off c l w hl hlt hc).mono fun e w' ⟨he, hb, hs, hc'⟩ => ⟨_, _, he, ⟨h.1, .inr ⟨_, 0, rfl, hs, hc'⟩⟩, hb⟩
end Go.Proofs.Qxb6602030a
