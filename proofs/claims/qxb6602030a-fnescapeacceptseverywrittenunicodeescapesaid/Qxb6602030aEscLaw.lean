import Derived.Test.Qxb6602030aEsc
namespace Go.Proofs.Qxb6602030a
open Go.ChangeShapes Go.WideShapes Go.ChangeAt Go.RowKit
set_option linter.unusedVariables false

set_option maxHeartbeats 800000 in
theorem zzescape_hex (b off n ca p : Nat) (q d : Int) (w : World) (hq : q = (p : Int)) (hn : n ≤ 4194304) (hca : n ≤ ca) (hcm : ca ≤ maxLen) (hp : p + 6 ≤ n) (hbr : b < w.heap.size)
    (cu : w.cell? ⟨b, off + (p + 1), none⟩ = some (.int .u8 117))
    (hx : ∀ i, i < 4 → ∃ h, w.cell? ⟨b, off + (p + 1 + 1) + i, none⟩ = some (.int .u8 h) ∧ Hex h) :
    Calls Try.prog 11 #[.slice (some ⟨b, off, none⟩) n ca, .int .i64 q, .int .i64 d] w fun e w' =>
      e = .returned (.tuple #[.bool true, .slice (some ⟨b, off, none⟩) n ca, .int .i64 ((p + 6 : Nat) : Int), .int .i64 d]) ∧ Below w.heap.size w w' := by
  subst hq
  have hbw : ∀ o, Below w.heap.size w (w.alloc o) := fun o => (Below.refl _ _).alloc (Nat.le_refl _) o
  have hx' : ∀ o i, i < 4 → ∃ h, (w.alloc o).cell? ⟨b, off + (p + 1 + 1) + i, none⟩ = some (.int .u8 h) ∧ Hex h := fun o i hi => by
    obtain ⟨h, h1, h2⟩ := hx i hi
    exact ⟨h, ((hbw o).cell (p := ⟨b, off + (p + 1 + 1) + i, none⟩) hbr).trans h1, h2⟩
  have cu' : ∀ o, (w.alloc o).cell? ⟨b, off + (p + 1), none⟩ = some (.int .u8 117) := fun o => ((hbw o).cell (p := ⟨b, off + (p + 1), none⟩) hbr).trans cu
  have HX := hx'
  clear hx hx' cu
  go_enter Try.func11, Try.ntmps11
  go_wp2_with fail
  refine (escape_hex w.heap.size b off n ca p (.int .i64 d) _ hn hca hcm hp hbr ⟨by simp, by simp, by simp, by simp, Below.refl _ _⟩ (cu' _) (HX _)).mono ?_
  rintro en w' ⟨rfl, g0, g1, g2, gf, gb⟩
  have HB : Below w.heap.size w w' := (hbw _).trans gb
  clear gb hbw HX cu'
  go_wp2
  go_quiet (fail)
  go_wp2
  exact bodyPost_ret (v := .tuple #[.bool true, .slice (some ⟨b, off, none⟩) n ca, .int .i64 ((p + 6 : Nat) : Int), .int .i64 d]) (by simp [results, Try.results11, go_sem]) rfl ⟨rfl, bdrew HB _⟩

/-- cloneBytes, and that a nil copy has no room. -/
theorem clone_cap (a : Option Addr) (c : Nat) (l : List Int) (w : World) (hl : l.length ≤ 4194304) (h : Row w a l) :
    Calls Try.prog 10 #[.slice a l.length c] w fun e w' => ∃ a' c', e = .returned (.slice a' l.length c') ∧ Row w' a' l ∧ Below w.heap.size w w' ∧ (a' = none → l.length = 0 ∧ c' = 0) := by
  rcases h.2 with rfl | ⟨b, off, rfl, hlt, hc⟩
  · cases a with
    | none => exact (clone_none _ c w).mono fun e w' ⟨he, hw⟩ => ⟨none, 0, he, ⟨h.1, .inl rfl⟩, by subst hw; exact Below.refl _ _, fun _ => ⟨rfl, rfl⟩⟩
    | some x => exact (clone_empty x c w).mono fun e w' ⟨he, hw⟩ => ⟨_, 0, he, ⟨h.1, .inl rfl⟩, hw, fun e => by cases e⟩
  · exact (clone_some b off c l w hl hlt hc).mono fun e w' ⟨he, hb, hs, hc'⟩ => ⟨_, _, he, ⟨h.1, .inr ⟨_, 0, rfl, hs, hc'⟩⟩, hb, fun e => by cases e⟩

/-- A row's cells, as the law on append asks them. -/
theorem Row.news {w : World} {a : Option Addr} {l : List Int} (h : Row w a l) : ∀ ad, a = some ad → ∀ j u, (l.map (Value.int .u8))[j]? = some u → w.cell? (ad.add j) = some u := by
  intro ad hd j u hu
  rw [List.getElem?_map] at hu
  rcases h.2 with rfl | ⟨b, off, ha, _, hc⟩
  · simp at hu
  · rw [hd] at ha
    obtain rfl := Option.some.inj ha
    obtain ⟨z, hz, rfl⟩ := Option.map_eq_some_iff.1 hu
    have hj := (List.getElem?_eq_some_iff.1 hz).1
    rw [add_plain, hc j hj, List.getD_eq_getElem?_getD, hz]; rfl

theorem one_u8 (l : List Int) : ∀ u ∈ l.map (Value.int .u8), u.oneCell' = true := by
  intro u hu
  obtain ⟨z, _, rfl⟩ := List.mem_map.1 hu
  rfl

def txt (l : List Int) (h1 h2 h3 h4 : Int) (t : List Int) : List Int := l ++ ([92, 117, h1, h2, h3, h4] ++ t)

theorem txt_len (l : List Int) (h1 h2 h3 h4 : Int) (t : List Int) : (txt l h1 h2 h3 h4 t).length = l.length + 6 + t.length := by
  simp [txt]; omega

theorem txt_at (l : List Int) (h1 h2 h3 h4 : Int) (t : List Int) (i : Nat) : (txt l h1 h2 h3 h4 t).getD (l.length + i) 0 = ([92, 117, h1, h2, h3, h4] ++ t).getD i 0 := by
  simp only [txt, List.getD_eq_getElem?_getD]
  rw [List.getElem?_append_right (by omega)]
  congr 2; omega

theorem hex_byte {h : Int} (hh : Hex h) : 0 ≤ h ∧ h ≤ 255 := by unfold Hex at hh; omega

theorem txt_byte (l : List Int) (h1 h2 h3 h4 : Int) (t : List Int) (hl : ∀ i, i < l.length → 0 ≤ l.getD i 0 ∧ l.getD i 0 ≤ 255) (ht : ∀ i, i < t.length → 0 ≤ t.getD i 0 ∧ t.getD i 0 ≤ 255)
    (q1 : Hex h1) (q2 : Hex h2) (q3 : Hex h3) (q4 : Hex h4) : ∀ i, i < (txt l h1 h2 h3 h4 t).length → 0 ≤ (txt l h1 h2 h3 h4 t).getD i 0 ∧ (txt l h1 h2 h3 h4 t).getD i 0 ≤ 255 := by
  have hall : ∀ z ∈ txt l h1 h2 h3 h4 t, 0 ≤ z ∧ z ≤ 255 := by
    intro z hz
    simp only [txt, List.mem_append, List.mem_cons, List.not_mem_nil, or_false] at hz
    have b1 := hex_byte q1; have b2 := hex_byte q2; have b3 := hex_byte q3; have b4 := hex_byte q4
    rcases hz with hz | (rfl | rfl | rfl | rfl | rfl | rfl) | hz
    · obtain ⟨i, hi, rfl⟩ := List.getElem_of_mem hz
      have := hl i hi
      rwa [List.getD_eq_getElem?_getD, List.getElem?_eq_getElem hi, Option.getD_some] at this
    all_goals try omega
    obtain ⟨i, hi, rfl⟩ := List.getElem_of_mem hz
    have := ht i hi
    rwa [List.getD_eq_getElem?_getD, List.getElem?_eq_getElem hi, Option.getD_some] at this
  intro i hi
  rw [List.getD_eq_getElem?_getD, List.getElem?_eq_getElem hi, Option.getD_some]
  exact hall _ (List.getElem_mem hi)

/-- From an owned row of bytes to 'Row'. -/
theorem row_own {w : World} {base g n cap : Nat} {L : List Int} {xs : List Value} (hb : ∀ i, i < L.length → 0 ≤ L.getD i 0 ∧ L.getD i 0 ≤ 255)
    (hown : w.ownsRow base 5 1 (.slice (some ⟨g, 0, none⟩) n cap) n xs) (hx : xs = L.map (Value.int .u8)) (hn : L.length = n) : Row w (some ⟨g, 0, none⟩) L := by
  refine ⟨hb, .inr ⟨g, 0, rfl, (hown.lt g rfl).2, fun i hi => ?_⟩⟩
  rw [Nat.zero_add, hown.cellAt i (by omega), hx, List.getElem?_map, List.getElem?_eq_getElem hi, List.getD_eq_getElem?_getD, List.getElem?_eq_getElem hi]
  rfl

set_option maxHeartbeats 400000 in
theorem zz12_true (a0 a3 : Option Addr) (n0 c0 n3 c3 : Nat) (v d : Int) (up : Bool) (w : World) (h : n0 + n3 ≤ 1048576) :
    Calls Try.prog 12 #[.slice a0 n0 c0, .int .u16 v, .bool up, .slice a3 n3 c3, .int .i64 d] w fun e w' => e = .returned (.bool true) ∧ w = w' := by
  go_enter Try.func12, Try.ntmps12
  go_wp2
  go_ret
  exact ⟨rfl, rfl⟩

set_option maxHeartbeats 400000 in
theorem zz12_false (a0 a3 : Option Addr) (n0 c0 n3 c3 : Nat) (v d : Int) (up : Bool) (w : World) (h : 1048576 < n0 + n3) (h0 : n0 ≤ maxLen) (h3 : n3 ≤ maxLen) :
    Calls Try.prog 12 #[.slice a0 n0 c0, .int .u16 v, .bool up, .slice a3 n3 c3, .int .i64 d] w fun e w' => e = .returned (.bool false) ∧ w = w' := by
  unfold maxLen at h0 h3
  go_enter Try.func12, Try.ntmps12
  go_wp2
  all_goals first | (exfalso; omega) | (go_ret; exact ⟨rfl, rfl⟩)

set_option maxHeartbeats 400000 in
theorem accepts_big (a0 a3 : Option Addr) (n0 c0 n3 c3 : Nat) (v d : Int) (up : Bool) (w : World) (h : 1048576 < n0 + n3) (h0 : n0 ≤ maxLen) (h3 : n3 ≤ maxLen) :
    Calls Try.prog 4 #[.slice a0 n0 c0, .int .u16 v, .bool up, .slice a3 n3 c3, .int .i64 d] w fun e w' => e = .returned (.bool true) ∧ Below w.heap.size w w' := by
  go_enter Try.func4, Try.ntmps4
  go_wp2_with (go_at_call 12; refine (zz12_false _ _ _ _ _ _ _ _ _ _ h h0 h3).mono ?_; rintro e w' ⟨rfl, rfl⟩)
  go_ret
  exact ⟨rfl, Below.refl _ _⟩

set_option maxHeartbeats 1000000 in
theorem accepts_main (a0 a3 : Option Addr) (c0 c3 : Nat) (l lt : List Int) (v d : Int) (up : Bool) (w : World) (h : l.length + lt.length ≤ 1048576) (hv0 : 0 ≤ v) (hv1 : v ≤ 65535)
    (h0 : Row w a0 l) (h3 : Row w a3 lt) :
    Calls Try.prog 4 #[.slice a0 l.length c0, .int .u16 v, .bool up, .slice a3 lt.length c3, .int .i64 d] w fun e w' => e = .returned (.bool true) ∧ Below w.heap.size w w' := by
  obtain ⟨i0, hi, hz0, hz1, hz2⟩ := info_parts Try.info5
  go_enter Try.func4, Try.ntmps4
  go_wp2_with (go_at_call 12; refine (zz12_true _ _ _ _ _ _ _ _ _ _ h).mono ?_; rintro e w' ⟨rfl, rfl⟩)
  refine (clone_cap a0 c0 l _ (by omega) h0).mono ?_
  rintro e w1 ⟨a1, c1, rfl, hr1, hb1, hn1⟩
  go_wp2_with fail
  refine (clone_cap a3 c3 lt _ (by omega) (h3.later hb1)).mono ?_
  rintro e w2 ⟨a2, c2, rfl, hr2, hb2, hn2⟩
  have R1 : Row w2 a1 l := hr1.later hb2
  have R1b := R1.1
  have B2 : Below w.heap.size w w2 := hb1.trans (hb2.mono hb1.size)
  clear hr1 hb1 hb2 h0 h3
  go_wp2_with (at_make; refine wpList_make_own _ rfl _ _ 22 rfl w2.heap.size 5 i0 (.int .u8 0) 1 Try.underlying22 hi hz0 hz1 _ _ _ (l.length + 6 + lt.length) rfl rfl (by omega) ?c1 ?c2 ?c3 ?_)
  case c1 => rw [hz2]; omega
  case c2 => unfold maxLen; omega
  case c3 => exact Nat.le_refl _
  intro w3 hown3 hgrow3
  have B3 : Below w2.heap.size w2 w3 := (Below.refl w2.heap.size w2).grown hgrow3 (Nat.le_refl _) (fun k e => by cases e)
  clear hgrow3
  go_wp2_with (at_builtin; refine wpList_append_fits_any _ rfl (.tmp 51) (.tmp 52) 22 rfl w2.heap.size 5 i0 1 Try.underlying22 hi hz1 w2.heap.size 0 (l.length + 6 + lt.length) [] rfl hown3 a1 l.length c1 (l.map (Value.int .u8)) rfl (by simp) hn1 (R1.later B3).news (one_u8 l) (by omega) ?_)
  intro w4 hown4 hgrow4
  have B4 : Below w2.heap.size w2 w4 := B3.grown hgrow4 B3.size (fun k e => by cases e; exact Nat.le_refl _)
  clear hgrow4 hown3 hn1 R1
  go_wp2_with fail
  refine (hex_of _ up ?_ ?_ _).mono ?_
  · omega
  · omega
  rintro e w5 ⟨k1, rfl, hk1, rfl⟩
  go_wp2_with fail
  refine (hex_of _ up ?_ ?_ _).mono ?_
  · omega
  · omega
  rintro e w5 ⟨k2, rfl, hk2, rfl⟩
  go_wp2_with fail
  refine (hex_of _ up ?_ ?_ _).mono ?_
  · omega
  · omega
  rintro e w5 ⟨k3, rfl, hk3, rfl⟩
  go_wp2_with fail
  refine (hex_of _ up ?_ ?_ _).mono ?_
  · omega
  · omega
  rintro e w5 ⟨k4, rfl, hk4, rfl⟩
  go_wp2_with (at_builtin; refine wpList_append_fits _ rfl (.tmp 54) (.tmp 70) 22 rfl w2.heap.size 5 i0 1 Try.underlying22 hi hz1 w2.heap.size l.length (l.length + 6 + lt.length) (l.map (Value.int .u8)) rfl (hown4.alloc _) ⟨w4.heap.size, 0, none⟩ 6 6 ([92, 117, k1, k2, k3, k4].map (Value.int .u8)) rfl rfl ?c4 (one_u8 _) (by omega) ?_)
  case c4 =>
    intro j u hj
    rw [add_plain, Nat.zero_add, World.cell?_alloc_new, ← hj]
    exact List.getElem?_toArray ..
  intro w6 hown6 hgrow6
  have B6 : Below w2.heap.size w2 w6 := (B4.alloc B4.size _).grown hgrow6 (by have := B4.size; simp; omega) (fun k e => by cases e; exact Nat.le_refl _)
  have R2 := hr2.later B6
  clear hgrow6 hown4 B4 B3
  go_wp2_with (at_builtin; refine wpList_append_fits_any _ rfl (.tmp 72) (.tmp 73) 22 rfl w2.heap.size 5 i0 1 Try.underlying22 hi hz1 w2.heap.size (l.length + 6) (l.length + 6 + lt.length) _ rfl hown6 a2 lt.length c2 (lt.map (Value.int .u8)) rfl (by simp) hn2 R2.news (one_u8 lt) (by omega) ?_)
  intro w7 hown7 hgrow7
  have B7 : Below w2.heap.size w2 w7 := B6.grown hgrow7 B6.size (fun k e => by cases e; exact Nat.le_refl _)
  have HT := txt_len l k1 k2 k3 k4 lt
  have RT : Row w7 (some ⟨w2.heap.size, 0, none⟩) (txt l k1 k2 k3 k4 lt) := row_own (txt_byte l k1 k2 k3 k4 lt R1b hr2.1 hk1 hk2 hk3 hk4) hown7 (by simp [txt]) HT
  have A1 : (txt l k1 k2 k3 k4 lt).getD (l.length + 1) 0 = 117 := by rw [txt_at]; rfl
  have A2 : ∀ i, i < 4 → Hex ((txt l k1 k2 k3 k4 lt).getD (l.length + 1 + 1 + i) 0) := by
    intro i hi
    rw [Nat.add_assoc l.length, Nat.add_assoc l.length, txt_at]
    match i, hi with
    | 0, _ => exact hk1
    | 1, _ => exact hk2
    | 2, _ => exact hk3
    | 3, _ => exact hk4
  generalize txt l k1 k2 k3 k4 lt = L at HT RT A1 A2
  clear hgrow7 hown6 hown7 B6 hn2 hr2 R2 hk1 hk2 hk3 hk4
  go_wp2_with fail
  have CL := clone_any (some ⟨w2.heap.size, 0, none⟩) (l.length + 6 + lt.length) L w7 (by omega) RT
  rw [HT] at CL
  refine CL.mono ?_
  rintro e w8 ⟨a8, c8, rfl, hr8, hb8⟩
  have RT8 := RT.later hb8
  obtain ⟨b', o', e', hlt8, hc8⟩ := RT8.2.resolve_left (by intro e; rw [e] at HT; simp at HT; omega)
  simp only [Option.some.injEq, Addr.mk.injEq, and_true] at e'
  obtain ⟨rfl, rfl⟩ := e'
  have cu := hc8 (l.length + 1) (by omega)
  rw [A1] at cu
  have hx : ∀ i, i < 4 → ∃ h, w8.cell? ⟨w2.heap.size, 0 + (l.length + 1 + 1) + i, none⟩ = some (.int .u8 h) ∧ Hex h := fun i hi =>
    ⟨_, by rw [Nat.add_assoc 0]; exact hc8 (l.length + 1 + 1 + i) (by omega), A2 i hi⟩
  have HX : Hid (∀ i, i < 4 → ∃ h, w8.cell? ⟨w2.heap.size, 0 + (l.length + 1 + 1) + i, none⟩ = some (.int .u8 h) ∧ Hex h) := hx
  have CU : Hid (w8.cell? ⟨w2.heap.size, 0 + (l.length + 1), none⟩ = some (.int .u8 117)) := cu
  clear hx cu hc8 CL A1 A2
  have HH : Hid (L.length = l.length + 6 + lt.length) := HT
  clear HT
  go_wp2_with fail
  refine (zzescape_hex w2.heap.size 0 (l.length + 6 + lt.length) (l.length + 6 + lt.length) l.length _ d w8 rfl (by omega) (by omega) (by unfold maxLen; omega) (by omega) hlt8 CU.out HX.out).mono ?_
  rintro e w9 ⟨rfl, hb9⟩
  have SM := same_any (some ⟨w2.heap.size, 0, none⟩) a8 (l.length + 6 + lt.length) c8 L w9 (by have := HH.out; omega) (RT8.later hb9) (hr8.later hb9)
  rw [HH.out] at SM
  have HSM := SM
  clear SM
  have e6 : (((l.length + 6 : Nat) : Int) == (l.length : Int) + 6) = true := beq_iff_eq.2 (by omega)
  have HB : Below w.heap.size w w9 := ((B2.trans (B7.mono B2.size)).trans (hb8.mono (Nat.le_trans B2.size B7.size))).trans (hb9.mono (Nat.le_trans (Nat.le_trans B2.size B7.size) hb8.size))
  go_wp2_with fail
  refine HSM.mono ?_
  rintro e w10 ⟨rfl, n10, rfl⟩
  clear HSM
  go_wp2
  go_ret
  exact ⟨rfl, bdrew HB _⟩
end Go.Proofs.Qxb6602030a
