import Derived.Test.Qxb6604392aEq
import Derived.Deep.RegionHeld
namespace Go.Proofs.Qxb6604392a
open Go.ChangeShapes Go.WideShapes Go.ChangeAt Go.RowKit Go.Maps
set_option linter.unusedVariables false

/-- What is known of every line that came in. -/
def Lined (l : List Line) : Prop := ∀ o ∈ l, o.kind.size ≤ maxLen ∧ o.key.size ≤ maxLen ∧ o.val.size ≤ maxLen ∧ -9223372036854775808 ≤ o.ret ∧ o.ret ≤ 9223372036854775807

theorem Lined.sized {l : List Line} (h : Lined l) : Sized l := fun o ho => ⟨(h o ho).1, (h o ho).2.1, (h o ho).2.2.1⟩
theorem Lined.left {l : List Line} (h : Lined l) : ∀ o ∈ l, o.left.2.size ≤ maxLen := fun o ho => by
  unfold Line.left
  split
  · exact (h o ho).2.2.1
  · exact Nat.zero_le _
theorem Lined.sub {l l' : List Line} (h : Lined l) (hs : ∀ o ∈ l', o ∈ l) : Lined l' := fun o ho => h o (hs o ho)
theorem Lined.zz {l : List Line} (hL : Lined l) (base g n c : Nat) (w : World) (hn : l.length ≤ 4096) (hln : l.length ≤ n) (hlc : l.length ≤ c) (hH : Hist w base g n l) :
    Calls Try.prog 6 #[.slice (some ⟨g, 0, none⟩) l.length c] w fun e w' => e = .returned (.slice (some ⟨g, 0, none⟩) (relevantL l).length c) ∧ w.grownBy w' (some g) ∧ Hist w' base g n (relevantL l) :=
  zz_any l base g n c w hn hln hlc hH hL.left (fun o ho => (hL o ho).2.2.1) (fun o ho => (hL o ho).2.2.2)

/-- The plain facts of the law. -/
theorem rel_mem {l : List Line} : ∀ o ∈ relevantL l, o ∈ l := fun o ho => (List.mem_filter.1 ho).1


theorem Hist.base {w : World} {base base' g n : Nat} {l : List Line} (h : Hist w base g n l) (hb : base' ≤ g) : Hist w base' g n l := ⟨hb, h.hi, h.ex, h.fz, h.at_, h.len⟩
theorem Hist.other {w : World} {base g n : Nat} {l : List Line} (h : Hist w base g n l) (g' o : Nat) (x : Line) (hg : g ≠ g') : Hist (put8 w g' o x) base g n l :=
  ⟨h.lo, by rw [put8_size]; exact h.hi, fun j hj => by rw [put8_out _ _ _ _ _ _ (.inl hg)]; exact h.ex j hj, fun j => by rw [put8_frozen]; exact h.fz j, fun i hi => (h.at_ i hi).of fun j _ _ => put8_out _ _ _ _ _ _ (.inl hg), h.len⟩
theorem hist_fresh {w w' : World} {base n : Nat} {xs : List Value} (h : w'.ownsRow w.heap.size 30 8 (.slice (some ⟨w.heap.size, 0, none⟩) n n) n xs) (hb : base ≤ w.heap.size) : Hist w' base w.heap.size n [] := by
  refine ⟨hb, (h.lt _ rfl).2, fun j hj => ?_, fun j => h.frozenAt j, fun i h => by simp at h, by simp⟩
  have hl := h.1
  rw [h.cellAt j hj]
  exact ⟨_, List.getElem?_eq_getElem (by omega)⟩
theorem Hist.drewN {w : World} {base g n : Nat} {l : List Line} (h : Hist w base g n l) (m : Nat) : Hist (w.drewN m) base g n l :=
  ⟨h.lo, h.hi, h.ex, h.fz, fun i hi => (h.at_ i hi).of fun j _ _ => rfl, h.len⟩
theorem neq_lines (x y : Line) (w : World) : (binOp .neq 30 (.agg x.cells) (.agg y.cells)).run Try.prog w = .ok (.bool (!same x y)) w := by
  obtain ⟨a0, a1, a2, a3, a4, a5, a6, a7⟩ := x
  obtain ⟨b0, b1, b2, b3, b4, b5, b6, b7⟩ := y
  unfold Line.cells same
  simp only
  go_simp
  by_cases h0 : a0 = b0
  · by_cases h1 : a1.toList = b1.toList
    · by_cases h2 : a2.toList = b2.toList
      · by_cases h3 : a3.toList = b3.toList
        · by_cases h4 : a4 = b4
          · by_cases h5 : a5 = b5
            · by_cases h6 : a6 = b6
              · by_cases h7 : a7 = b7 <;> simp [h0, h1, h2, h3, h4, h5, h6, h7]
              · simp [h0, h1, h2, h3, h4, h5, h6]
            · simp [h0, h1, h2, h3, h4, h5]
          · simp [h0, h1, h2, h3, h4]
        · simp [h0, h1, h2, h3]
      · simp [h0, h1, h2]
    · simp [h0, h1]
  · simp [h0]
theorem sub_step {r l : List Line} {p k : Nat} (h : (r.drop p).Sublist (l.drop k)) : (r.drop (p + 1)).Sublist (l.drop (k + 1)) := by
  have := h.tail
  rwa [List.tail_drop, List.tail_drop] at this
theorem sub_skip {r l : List Line} {p k : Nat} (hp : p < r.length) (hk : k < l.length) (h : (r.drop p).Sublist (l.drop k)) (hne : same l[k] r[p] = false) : (r.drop p).Sublist (l.drop (k + 1)) := by
  rw [List.drop_eq_getElem_cons hk] at h
  rw [List.drop_eq_getElem_cons hp] at h ⊢
  generalize l[k] = x at h hne
  generalize r[p] = y at h hne ⊢
  cases h with
  | cons _ h => exact h
  | cons_cons _ h => rw [same_refl] at hne; cases hne
theorem sub_end {r l : List Line} {p k : Nat} (h : (r.drop p).Sublist (l.drop k)) (hk : l.length ≤ k) (hp : p ≤ r.length) : p = r.length := by
  have := h.length_le
  simp only [List.length_drop] at this
  omega
theorem count_step {l : List Line} {k : Nat} (hk : k < l.length) : ((l.take (k + 1)).filter (·.ok)).length = ((l.take k).filter (·.ok)).length + (if l[k].ok = true then 1 else 0) := by
  rw [List.take_succ_eq_append_getElem hk, List.filter_append, List.length_append]
  congr 1
  cases h : l[k].ok <;> simp [h]
theorem count_le (l : List Line) (k : Nat) : ((l.take k).filter (·.ok)).length ≤ k := by
  refine Nat.le_trans (List.length_filter_le _ _) ?_
  simp; omega
theorem Hist.grown {w w' : World} {base g n : Nat} {l : List Line} (h : Hist w base g n l) {o : Option Nat} (hg : w.grownBy w' o) (ho : ∀ j, o = some j → g < j) : Hist w' base g n l :=
  h.later ((Below.refl (g + 1) w).grown hg h.hi fun j hj => by have := ho j hj; omega) (Nat.lt_succ_self g)

set_option maxHeartbeats 8000000 in
set_option maxRecDepth 100000 in
theorem law_main (a : Option Addr) (c : Nat) (l : List Line) (w : World) (hlm : l.length ≤ maxLen) (hC : Came w a l) (hL : Lined l) (rel : List Line) (hrel : relevantL l = rel) :
    Calls Try.prog 3 #[.slice a l.length c] w fun e w' => e = .returned (.bool true) ∧ Below w.heap.size w w' := by
  have B4 := bytes_any a c l w hlm hC hL.sized
  have B5 := big_any a c l w hlm hC hL.sized
  have HC : Hid (Came w a l) := hC
  have HL : Hid (Lined l) := hL
  have HRel : Hid (relevantL l = rel) := hrel
  have hrl : rel.length ≤ l.length := by rw [← hrel]; exact relevant_length l
  clear hC hL hrel
  unfold maxLen at hlm
  go_enter Try.func3, Try.ntmps3
  go_wp2_with fail
  refine B4.mono ?_
  rintro e w' ⟨q, rfl, rfl⟩
  cases q
  · clear B5 B4
    go_wp2
    go_ret
    exact ⟨rfl, Below.refl _ _⟩
  go_wp2_with fail
  refine B5.mono ?_
  rintro e w0 ⟨q, rfl, hb0, hq⟩
  cases q
  case true =>
    clear B4 B5 hq
    go_wp2
    go_ret
    exact ⟨rfl, hb0⟩
  have hn : l.length ≤ 4096 := hq rfl
  have HB0 : Hid (Below w.heap.size w w0) := hb0
  clear hq hlm B4 B5 hb0
  have hC0 : Came w0 a l := by
    rcases HC.out with h | ⟨b, off, h1, h2, h3⟩
    · exact .inl h
    · exact .inr ⟨b, off, h1, Nat.lt_of_lt_of_le h2 HB0.out.size, fun i hi => (h3 i hi).later HB0.out h2⟩
  have T := tohist_any a c l w0 hn hC0
  clear hC0
  go_wp2_with fail
  refine T.mono ?_
  rintro e w1 ⟨rfl, hb1, hH1⟩
  have HB1 : Hid (Below w.heap.size w w1) := HB0.out.trans (hb1.mono HB0.out.size)
  have Z := HL.out.zz w0.heap.size w0.heap.size l.length l.length w1 hn (Nat.le_refl _) (Nat.le_refl _) hH1
  have hgh : w.heap.size ≤ w0.heap.size := HB0.out.size
  clear T hb1 hH1
  generalize w0.heap.size = gh at Z hgh ⊢
  rw [HRel.out] at Z
  go_wp2_with fail
  refine Z.mono ?_
  rintro e w2 ⟨rfl, hg2, hH2⟩
  have HB2 : Hid (Below w.heap.size w w2) := HB1.out.grown hg2 HB1.out.size (fun j hj => by injection hj with hj; omega)
  have HH2 : Hid (Hist w2 gh gh l.length rel) := hH2
  clear Z hg2 hH2 HB0 HB1
  obtain ⟨i0, hi, hz0, hz1, hz2⟩ := info_parts Try.info30
  have hrn : rel.length ≤ 4096 := by omega
  go_wp2_with (first | (at_make; refine wpList_make_full _ rfl _ _ 24 rfl w2.heap.size 30 i0 _ 8 Try.underlying24 hi hz0 hz1 _ _ _ _ rel.length rfl rfl (by omega) (by omega) ?c1 ?c2 ?c3 ?_) | go_in)
  case c1 => rw [hz2]; omega
  case c2 => unfold maxLen; omega
  case c3 => exact Nat.le_refl _
  intro w3 hown hgrow
  have hgk : gh < w2.heap.size := HH2.out.hi
  have HB3 : Hid (Below w.heap.size w w3) := HB2.out.grown hgrow HB2.out.size (fun k e => by cases e)
  have HG3 : Hid (Hist w3 w.heap.size gh l.length rel) := (HH2.out.base hgh).grown hgrow (fun k e => by cases e)
  have HK3 : Hid (Hist w3 w.heap.size w2.heap.size rel.length []) := hist_fresh hown HB2.out.size
  clear hown hgrow HH2 HB2
  generalize w2.heap.size = gk at hgk HK3 ⊢
  go_wp2
  go_loopw [6] (fun i wr => ∃ k : Nat, k ≤ rel.length ∧ i = .int .i64 k ∧ Below w.heap.size w wr ∧ Hist wr w.heap.size gh l.length rel ∧ Hist wr w.heap.size gk rel.length (rel.take k)) (fun i _ => rel.length - (intOf i).toNat)
  case atStart => exact ⟨0, Nat.zero_le _, rfl, HB3.out, HG3.out, HK3.out⟩
  case round =>
    clear HB3 HG3 HK3
    obtain ⟨k, hk, rfl, hb, hG, hK⟩ := hrel
    by_cases hlt : k < rel.length
    · have hL := hG.at_ k hlt
      have HB : Hid (Below w.heap.size w wr) := hb
      have HG : Hid (Hist wr w.heap.size gh l.length rel) := hG
      have HK : Hid (Hist wr w.heap.size gk rel.length (rel.take k)) := hK
      have hgi := hG.hi
      obtain ⟨_, hi2, hex, hfz, _, _⟩ := hK
      clear hb hG
      obtain ⟨x, hx⟩ : ∃ x, x = rel[k] := ⟨_, rfl⟩
      rw [← hx] at hL
      have HX : Hid (x = rel[k]) := hx
      clear hx
      obtain ⟨x0, x1, x2, x3, x4, x5, x6, x7⟩ := x
      obtain ⟨c0, c1, c2, c3, c4, c5, c6, c7⟩ := hL
      simp only at c0 c1 c2 c3 c4 c5 c6 c7
      obtain ⟨v0, e0⟩ := hex (k * 8) (by omega)
      obtain ⟨v1, e1⟩ := hex (k * 8 + 1) (by omega)
      obtain ⟨v2, e2⟩ := hex (k * 8 + 2) (by omega)
      obtain ⟨v3, e3⟩ := hex (k * 8 + 3) (by omega)
      obtain ⟨v4, e4⟩ := hex (k * 8 + 4) (by omega)
      obtain ⟨v5, e5⟩ := hex (k * 8 + 5) (by omega)
      obtain ⟨v6, e6⟩ := hex (k * 8 + 6) (by omega)
      obtain ⟨v7, e7⟩ := hex (k * 8 + 7) (by omega)
      clear hex
      go_wp2
      refine ⟨⟨k + 1, by omega, by go_num, below_put8 HB.out HK.out.lo (k * 8) ⟨x0, x1, x2, x3, x4, x5, x6, x7⟩, HG.out.other gk (k * 8) ⟨x0, x1, x2, x3, x4, x5, x6, x7⟩ (by omega), ?_⟩, by simp [intOf]; omega⟩
      rw [List.take_succ_eq_append_getElem hlt, ← HX.out]
      exact HK.out.push (by simp; omega) k (by simp; omega) ⟨x0, x1, x2, x3, x4, x5, x6, x7⟩
    · have hkm : k = rel.length := by omega
      subst hkm
      rw [List.take_length] at hK
      have HB : Hid (Below w.heap.size w wr) := hb
      have HK : Hid (Hist wr w.heap.size gk rel.length rel) := hK
      clear hb hG hK hlt hk
      go_wp2_with (first | (at_make; refine wpList_make_full _ rfl _ _ 24 rfl wr.heap.size 30 i0 _ 8 Try.underlying24 hi hz0 hz1 _ _ _ _ l.length rfl rfl (by omega) (by omega) ?c1 ?c2 ?c3 ?_) | go_in)
      case c1 => rw [hz2]; omega
      case c2 => unfold maxLen; omega
      case c3 => exact Nat.le_refl _
      intro w3 hown hgrow
      have hkr : gk < wr.heap.size := HK.out.hi
      have HB3 : Hid (Below w.heap.size w w3) := HB.out.grown hgrow HB.out.size (fun k e => by cases e)
      have HK3 : Hid (Hist w3 w.heap.size gk rel.length rel) := HK.out.grown hgrow (fun k e => by cases e)
      have HR3 : Hid (Hist w3 w.heap.size wr.heap.size l.length []) := hist_fresh hown HB.out.size
      clear hown hgrow HB HK
      generalize wr.heap.size = gr at hkr HR3 ⊢
      clear wr w1 w0
      go_wp2
      go_loopw [8] (fun i wr => ∃ k : Nat, k ≤ l.length ∧ i = .int .i64 k ∧ Below w.heap.size w wr ∧ Hist wr w.heap.size gk rel.length rel ∧ Hist wr w.heap.size gr l.length (l.reverse.take k)) (fun i _ => l.length - (intOf i).toNat)
      case atStart => exact ⟨0, Nat.zero_le _, rfl, HB3.out, HK3.out, HR3.out⟩
      case round =>
        clear HB3 HK3 HR3
        obtain ⟨k, hk, rfl, hb, hK, hR⟩ := hrel
        by_cases hlt : k < l.length
        · obtain ⟨b, off, ha, hbw, hat⟩ : ∃ b off, a = some ⟨b, off, none⟩ ∧ b < w.heap.size ∧ ∀ i (h : i < l.length), LineAt w b (off + i * 8) l[i] := by
            rcases HC.out with h | h
            · rw [h] at hlt; simp at hlt
            · exact h
          subst ha
          have hL := (hat (l.length - 1 - k) (by omega)).later hb hbw
          have HX : Hid (l[l.length - 1 - k]'(by omega) = l.reverse[k]'(by simp; omega)) := by unfold Hid; rw [List.getElem_reverse]
          have HB : Hid (Below w.heap.size w wr) := hb
          have HK : Hid (Hist wr w.heap.size gk rel.length rel) := hK
          have HR : Hid (Hist wr w.heap.size gr l.length (l.reverse.take k)) := hR
          have hkl := hK.hi
          have hrl := hR.hi
          clear hb hK hR hat
          generalize l[l.length - 1 - k]'(by omega) = x at hL HX
          have T := toop_any x
          obtain ⟨x0, x1, x2, x3, x4, x5, x6, x7⟩ := x
          obtain ⟨c0, c1, c2, c3, c4, c5, c6, c7⟩ := hL
          simp only [Line.cells] at c0 c1 c2 c3 c4 c5 c6 c7 T
          go_wp2_with fail
          refine (T _).mono ?_
          rintro e w2 ⟨rfl, hb2⟩
          have HB2 : Hid (Below w.heap.size w w2) := HB.out.trans (hb2.mono HB.out.size)
          have HK2 : Hid (Hist w2 w.heap.size gk rel.length rel) := HK.out.later hb2 hkl
          have H2 := HR.out.later hb2 hrl
          have HR2 : Hid (Hist w2 w.heap.size gr l.length (l.reverse.take k)) := H2
          clear HB HK HR hb2 T c0 c1 c2 c3 c4 c5 c6 c7 hkl hrl
          obtain ⟨_, hi2, hex, hfz, _, _⟩ := H2
          obtain ⟨v0, e0⟩ := hex (k * 8) (by omega)
          obtain ⟨v1, e1⟩ := hex (k * 8 + 1) (by omega)
          obtain ⟨v2, e2⟩ := hex (k * 8 + 2) (by omega)
          obtain ⟨v3, e3⟩ := hex (k * 8 + 3) (by omega)
          obtain ⟨v4, e4⟩ := hex (k * 8 + 4) (by omega)
          obtain ⟨v5, e5⟩ := hex (k * 8 + 5) (by omega)
          obtain ⟨v6, e6⟩ := hex (k * 8 + 6) (by omega)
          obtain ⟨v7, e7⟩ := hex (k * 8 + 7) (by omega)
          clear hex
          go_wp2
          refine ⟨⟨k + 1, by omega, by go_num, below_put8 HB2.out HR2.out.lo (k * 8) ⟨x0, x1, x2, x3, x4, x5, x6, x7⟩, HK2.out.other gr (k * 8) ⟨x0, x1, x2, x3, x4, x5, x6, x7⟩ (by omega), ?_⟩, by simp [intOf]; omega⟩
          rw [List.take_succ_eq_append_getElem (by simp; omega), ← HX.out]
          exact HR2.out.push (by simp; omega) k (by simp; omega) ⟨x0, x1, x2, x3, x4, x5, x6, x7⟩
        · have hkm : k = l.length := by omega
          subst hkm
          rw [List.take_of_length_le (by simp)] at hR
          have HB : Hid (Below w.heap.size w wr) := hb
          have HK : Hid (Hist wr w.heap.size gk rel.length rel) := hK
          have Z := (HL.out.sub (l' := l.reverse) (fun o ho => by simpa using ho)).zz w.heap.size gr l.length l.length wr (by simpa using hn) (by simp) (by simp) hR
          rw [relevant_reverse, HRel.out, List.length_reverse, List.length_reverse] at Z
          have hkl := hK.hi
          have hrl := hR.hi
          clear hb hK hR hlt hk
          go_wp2_with fail
          refine Z.mono ?_
          rintro e w2 ⟨rfl, hg2, hR2⟩
          have HB2 : Hid (Below w.heap.size w w2) := HB.out.grown hg2 HB.out.size (fun j hj => by injection hj with hj; have := hR2.lo; omega)
          have HK2 : Hid (Hist w2 w.heap.size gk rel.length rel) := HK.out.grown hg2 (fun j hj => by injection hj with hj; omega)
          have HR2 : Hid (Hist w2 w.heap.size gr l.length rel.reverse) := hR2
          clear Z hg2 hR2 HB HK
          go_wp2
          go_loopw [10] (fun i wr => ∃ k : Nat, k ≤ rel.length ∧ i = .int .i64 k ∧ Below w.heap.size w wr ∧ Hist wr w.heap.size gk rel.length rel ∧ Hist wr w.heap.size gr l.length rel.reverse) (fun i _ => rel.length - (intOf i).toNat)
          case atStart => exact ⟨0, Nat.zero_le _, rfl, HB2.out, HK2.out, HR2.out⟩
          case round =>
            clear HB2 HK2 HR2 hkl hrl
            obtain ⟨k, hk, rfl, hb, hK, hR⟩ := hrel
            by_cases hlt : k < rel.length
            · have hL := hK.at_ (rel.length - 1 - k) (by omega)
              have hM := hR.at_ k (by simp; omega)
              rw [List.getElem_reverse] at hM
              generalize rel[rel.length - 1 - k]'(by omega) = x at hL hM
              have HB : Hid (Below w.heap.size w wr) := hb
              have HK : Hid (Hist wr w.heap.size gk rel.length rel) := hK
              have HR : Hid (Hist wr w.heap.size gr l.length rel.reverse) := hR
              have hkl := hK.hi
              have hrl := hR.hi
              clear hb hK hR
              have E := neq_lines x x
              rw [same_refl] at E
              obtain ⟨x0, x1, x2, x3, x4, x5, x6, x7⟩ := x
              obtain ⟨c0, c1, c2, c3, c4, c5, c6, c7⟩ := hL
              obtain ⟨d0, d1, d2, d3, d4, d5, d6, d7⟩ := hM
              simp only [Line.cells, Bool.not_true] at c0 c1 c2 c3 c4 c5 c6 c7 d0 d1 d2 d3 d4 d5 d6 d7 E
              have i1 : (0 : Int) ≤ (k : Int) := by omega
              have i2 : (k : Int) < (rel.length : Int) := by omega
              have i3 : (0 : Int) ≤ (rel.length : Int) - 1 - (k : Int) := by omega
              have i4 : (rel.length : Int) - 1 - (k : Int) < (rel.length : Int) := by omega
              go_upto_region 25 with fail
              go_quiet (fail)
              clear E c0 c1 c2 c3 c4 c5 c6 c7 d0 d1 d2 d3 d4 d5 d6 d7
              go_wp2
              exact ⟨⟨k + 1, by omega, by go_num, below_drewN HB.out _, HK.out.drewN _, HR.out.drewN _⟩, by simp [intOf]; omega⟩
            · have hkm : k = rel.length := by omega
              subst hkm
              have HB : Hid (Below w.heap.size w wr) := hb
              have HK : Hid (Hist wr w.heap.size gk rel.length rel) := hK
              clear hb hR hK hlt hk
              go_wp2_with (first | (at_make; refine wpList_make_full _ rfl _ _ 24 rfl wr.heap.size 30 i0 _ 8 Try.underlying24 hi hz0 hz1 _ _ _ _ rel.length rfl rfl (by omega) (by omega) ?c1 ?c2 ?c3 ?_) | go_in)
              case c1 => rw [hz2]; omega
              case c2 => unfold maxLen; omega
              case c3 => exact Nat.le_refl _
              intro w3 hown hgrow
              have hka : gk < wr.heap.size := HK.out.hi
              have HB3 : Hid (Below w.heap.size w w3) := HB.out.grown hgrow HB.out.size (fun k e => by cases e)
              have HK3 : Hid (Hist w3 w.heap.size gk rel.length rel) := HK.out.grown hgrow (fun k e => by cases e)
              have HA3 : Hid (Hist w3 w.heap.size wr.heap.size rel.length []) := hist_fresh hown HB.out.size
              clear hown hgrow HB HK
              generalize wr.heap.size = ga at hka HA3 ⊢
              clear wr
              go_wp2
              go_loopw [12] (fun i wr => ∃ k : Nat, k ≤ rel.length ∧ i = .int .i64 k ∧ Below w.heap.size w wr ∧ Hist wr w.heap.size gk rel.length rel ∧ Hist wr w.heap.size ga rel.length (rel.take k)) (fun i _ => rel.length - (intOf i).toNat)
              case atStart => exact ⟨0, Nat.zero_le _, rfl, HB3.out, HK3.out, HA3.out⟩
              case round =>
                clear HB3 HK3 HA3
                obtain ⟨k, hk, rfl, hb, hG, hK⟩ := hrel
                by_cases hlt : k < rel.length
                · have hL := hG.at_ k hlt
                  have HB : Hid (Below w.heap.size w wr) := hb
                  have HG : Hid (Hist wr w.heap.size gk rel.length rel) := hG
                  have HK : Hid (Hist wr w.heap.size ga rel.length (rel.take k)) := hK
                  have hgi := hG.hi
                  obtain ⟨_, hi2, hex, hfz, _, _⟩ := hK
                  clear hb hG
                  obtain ⟨x, hx⟩ : ∃ x, x = rel[k] := ⟨_, rfl⟩
                  rw [← hx] at hL
                  have HX : Hid (x = rel[k]) := hx
                  clear hx
                  obtain ⟨x0, x1, x2, x3, x4, x5, x6, x7⟩ := x
                  obtain ⟨c0, c1, c2, c3, c4, c5, c6, c7⟩ := hL
                  simp only at c0 c1 c2 c3 c4 c5 c6 c7
                  obtain ⟨v0, e0⟩ := hex (k * 8) (by omega)
                  obtain ⟨v1, e1⟩ := hex (k * 8 + 1) (by omega)
                  obtain ⟨v2, e2⟩ := hex (k * 8 + 2) (by omega)
                  obtain ⟨v3, e3⟩ := hex (k * 8 + 3) (by omega)
                  obtain ⟨v4, e4⟩ := hex (k * 8 + 4) (by omega)
                  obtain ⟨v5, e5⟩ := hex (k * 8 + 5) (by omega)
                  obtain ⟨v6, e6⟩ := hex (k * 8 + 6) (by omega)
                  obtain ⟨v7, e7⟩ := hex (k * 8 + 7) (by omega)
                  clear hex
                  go_wp2
                  refine ⟨⟨k + 1, by omega, by go_num, below_put8 HB.out HK.out.lo (k * 8) ⟨x0, x1, x2, x3, x4, x5, x6, x7⟩, HG.out.other ga (k * 8) ⟨x0, x1, x2, x3, x4, x5, x6, x7⟩ (by omega), ?_⟩, by simp [intOf]; omega⟩
                  rw [List.take_succ_eq_append_getElem hlt, ← HX.out]
                  exact HK.out.push (by simp; omega) k (by simp; omega) ⟨x0, x1, x2, x3, x4, x5, x6, x7⟩
                · have hkm : k = rel.length := by omega
                  subst hkm
                  rw [List.take_length] at hK
                  have HB : Hid (Below w.heap.size w wr) := hb
                  have HK : Hid (Hist wr w.heap.size gk rel.length rel) := hG
                  have Z := (HL.out.sub (l' := rel) (fun o ho => rel_mem o (by rw [HRel.out]; exact ho))).zz w.heap.size ga rel.length rel.length wr hrn (Nat.le_refl _) (Nat.le_refl _) hK
                  have hra : relevantL rel = rel := by have := relevant_again l; rwa [HRel.out] at this
                  rw [hra] at Z
                  have hkl := hG.hi
                  have hal := hK.hi
                  clear hb hG hK hlt hk hra
                  go_wp2_with fail
                  refine Z.mono ?_
                  rintro e w2 ⟨rfl, hg2, hA2⟩
                  have HB2 : Hid (Below w.heap.size w w2) := HB.out.grown hg2 HB.out.size (fun j hj => by injection hj with hj; have := hA2.lo; omega)
                  have HK2 : Hid (Hist w2 w.heap.size gk rel.length rel) := HK.out.grown hg2 (fun j hj => by injection hj with hj; omega)
                  have HA2 : Hid (Hist w2 w.heap.size ga rel.length rel) := hA2
                  clear Z hg2 hA2 HB HK
                  go_wp2
                  go_loopw [14] (fun i wr => ∃ k : Nat, k ≤ rel.length ∧ i = .int .i64 k ∧ Below w.heap.size w wr ∧ Hist wr w.heap.size gk rel.length rel ∧ Hist wr w.heap.size ga rel.length rel) (fun i _ => rel.length - (intOf i).toNat)
                  case atStart => exact ⟨0, Nat.zero_le _, rfl, HB2.out, HK2.out, HA2.out⟩
                  case round =>
                    clear HB2 HK2 HA2 hkl hal
                    obtain ⟨k, hk, rfl, hb, hK, hR⟩ := hrel
                    by_cases hlt : k < rel.length
                    · have hL := hK.at_ k hlt
                      have hM := hR.at_ k hlt
                      generalize rel[k]'hlt = x at hL hM
                      have HB : Hid (Below w.heap.size w wr) := hb
                      have HK : Hid (Hist wr w.heap.size gk rel.length rel) := hK
                      have HR : Hid (Hist wr w.heap.size ga rel.length rel) := hR
                      have hkl := hK.hi
                      have hrl := hR.hi
                      clear hb hK hR
                      have E := neq_lines x x
                      rw [same_refl] at E
                      obtain ⟨x0, x1, x2, x3, x4, x5, x6, x7⟩ := x
                      obtain ⟨c0, c1, c2, c3, c4, c5, c6, c7⟩ := hL
                      obtain ⟨d0, d1, d2, d3, d4, d5, d6, d7⟩ := hM
                      simp only [Line.cells, Bool.not_true] at c0 c1 c2 c3 c4 c5 c6 c7 d0 d1 d2 d3 d4 d5 d6 d7 E
                      have i1 : (0 : Int) ≤ (k : Int) := by omega
                      have i2 : (k : Int) < (rel.length : Int) := by omega
                      go_upto_region 38 with fail
                      go_quiet (fail)
                      clear E c0 c1 c2 c3 c4 c5 c6 c7 d0 d1 d2 d3 d4 d5 d6 d7
                      go_wp2
                      exact ⟨⟨k + 1, by omega, by go_num, below_drewN HB.out _, HK.out.drewN _, HR.out.drewN _⟩, by simp [intOf]; omega⟩
                    · have hkm : k = rel.length := by omega
                      subst hkm
                      have HB : Hid (Below w.heap.size w wr) := hb
                      have HK : Hid (Hist wr w.heap.size gk rel.length rel) := hK
                      clear hb hR hK hlt hk
                      have hSub : Hid ((rel.drop 0).Sublist (l.drop 0)) := by rw [← HRel.out]; exact relevant_sub l
                      go_wp2
                      go_loopw [15, 16] (fun i15 i16 wr => ∃ p k : Nat, p ≤ rel.length ∧ k ≤ l.length ∧ i15 = .int .i64 p ∧ i16 = .int .i64 k ∧ Hid ((rel.drop p).Sublist (l.drop k)) ∧ Below w.heap.size w wr ∧ Hist wr w.heap.size gk rel.length rel) (fun _ i16 _ => l.length - (intOf i16).toNat)
                      case atStart => exact ⟨0, 0, Nat.zero_le _, Nat.zero_le _, rfl, rfl, hSub, HB.out, HK.out⟩
                      case round =>
                        clear HB HK hSub
                        obtain ⟨p, k, hp, hk, rfl, rfl, hSub, hb, hK⟩ := hrel
                        by_cases hlt : k < l.length ∧ p < rel.length
                        · obtain ⟨hlt, hpt⟩ := hlt
                          obtain ⟨b, off, ha, hbw, hat⟩ : ∃ b off, a = some ⟨b, off, none⟩ ∧ b < w.heap.size ∧ ∀ i (h : i < l.length), LineAt w b (off + i * 8) l[i] := by
                            rcases HC.out with h | h
                            · rw [h] at hlt; simp at hlt
                            · exact h
                          subst ha
                          have hL := (hat k hlt).later hb hbw
                          have hM := hK.at_ p hpt
                          have HS1 : Hid (same l[k] rel[p] = false → (rel.drop p).Sublist (l.drop (k + 1))) := sub_skip hpt hlt hSub.out
                          have HS2 : Hid ((rel.drop (p + 1)).Sublist (l.drop (k + 1))) := sub_step hSub.out
                          clear hat hSub
                          generalize l[k] = x at hL HS1
                          generalize rel[p] = y at hM HS1
                          have hkl := hK.hi
                          have T : Calls Try.prog 8 #[.agg x.cells] wr.drew fun e w' => e = .returned (.agg x.cells) ∧ Hid (Below w.heap.size w w') ∧ Hid (Hist w' w.heap.size gk rel.length rel) ∧ Hid (LineAt w' b (off + k * 8) x) ∧ Hid (LineAt w' gk (p * 8) y) :=
                            (toop_any x wr.drew).mono fun e w' ⟨h1, h2⟩ => by
                              have h2' : Below wr.heap.size wr w' := (Below.refl _ _).drew.trans h2
                              exact ⟨h1, hb.trans (h2'.mono hb.size), hK.later h2' hkl, hL.later h2' (Nat.lt_of_lt_of_le hbw hb.size), hM.later h2' hkl⟩
                          clear hb hK
                          have E := eql_lines x y
                          generalize same x y = q at E HS1
                          obtain ⟨x0, x1, x2, x3, x4, x5, x6, x7⟩ := x
                          obtain ⟨y0, y1, y2, y3, y4, y5, y6, y7⟩ := y
                          have HX : Hid (∀ W : World, LineAt W b (off + k * 8) ⟨x0, x1, x2, x3, x4, x5, x6, x7⟩ → LineAt W gk (p * 8) ⟨y0, y1, y2, y3, y4, y5, y6, y7⟩ → W.cell? ⟨b, off + k * 8, none⟩ = some (.int .i64 x0) ∧ W.cell? ⟨b, off + k * 8 + 1, none⟩ = some (.string x1) ∧ W.cell? ⟨b, off + k * 8 + 2, none⟩ = some (.string x2) ∧ W.cell? ⟨b, off + k * 8 + 3, none⟩ = some (.string x3) ∧ W.cell? ⟨b, off + k * 8 + 4, none⟩ = some (.bool x4) ∧ W.cell? ⟨b, off + k * 8 + 5, none⟩ = some (.int .i64 x5) ∧ W.cell? ⟨b, off + k * 8 + 6, none⟩ = some (.int .i64 x6) ∧ W.cell? ⟨b, off + k * 8 + 7, none⟩ = some (.bool x7) ∧ W.cell? ⟨gk, p * 8, none⟩ = some (.int .i64 y0) ∧ W.cell? ⟨gk, p * 8 + 1, none⟩ = some (.string y1) ∧ W.cell? ⟨gk, p * 8 + 2, none⟩ = some (.string y2) ∧ W.cell? ⟨gk, p * 8 + 3, none⟩ = some (.string y3) ∧ W.cell? ⟨gk, p * 8 + 4, none⟩ = some (.bool y4) ∧ W.cell? ⟨gk, p * 8 + 5, none⟩ = some (.int .i64 y5) ∧ W.cell? ⟨gk, p * 8 + 6, none⟩ = some (.int .i64 y6) ∧ W.cell? ⟨gk, p * 8 + 7, none⟩ = some (.bool y7)) := fun W h1 h2 => ⟨h1.c0, h1.c1, h1.c2, h1.c3, h1.c4, h1.c5, h1.c6, h1.c7, h2.c0, h2.c1, h2.c2, h2.c3, h2.c4, h2.c5, h2.c6, h2.c7⟩
                          obtain ⟨c0, c1, c2, c3, c4, c5, c6, c7⟩ := hL
                          obtain ⟨d0, d1, d2, d3, d4, d5, d6, d7⟩ := hM
                          simp only [Line.cells] at c0 c1 c2 c3 c4 c5 c6 c7 d0 d1 d2 d3 d4 d5 d6 d7 E T
                          have i1 : (0 : Int) ≤ (k : Int) := by omega
                          have i2 : (k : Int) < (l.length : Int) := by omega
                          have i3 : (0 : Int) ≤ (p : Int) := by omega
                          have i4 : (p : Int) < (rel.length : Int) := by omega
                          go_upto_region 44 with fail
                          go_region_held (fun W => W.cell? ⟨b, off + k * 8, none⟩ = some (.int .i64 x0) ∧ W.cell? ⟨b, off + k * 8 + 1, none⟩ = some (.string x1) ∧ W.cell? ⟨b, off + k * 8 + 2, none⟩ = some (.string x2) ∧ W.cell? ⟨b, off + k * 8 + 3, none⟩ = some (.string x3) ∧ W.cell? ⟨b, off + k * 8 + 4, none⟩ = some (.bool x4) ∧ W.cell? ⟨b, off + k * 8 + 5, none⟩ = some (.int .i64 x5) ∧ W.cell? ⟨b, off + k * 8 + 6, none⟩ = some (.int .i64 x6) ∧ W.cell? ⟨b, off + k * 8 + 7, none⟩ = some (.bool x7) ∧ W.cell? ⟨gk, p * 8, none⟩ = some (.int .i64 y0) ∧ W.cell? ⟨gk, p * 8 + 1, none⟩ = some (.string y1) ∧ W.cell? ⟨gk, p * 8 + 2, none⟩ = some (.string y2) ∧ W.cell? ⟨gk, p * 8 + 3, none⟩ = some (.string y3) ∧ W.cell? ⟨gk, p * 8 + 4, none⟩ = some (.bool y4) ∧ W.cell? ⟨gk, p * 8 + 5, none⟩ = some (.int .i64 y5) ∧ W.cell? ⟨gk, p * 8 + 6, none⟩ = some (.int .i64 y6) ∧ W.cell? ⟨gk, p * 8 + 7, none⟩ = some (.bool y7)) (first | exact HX.out _ HC1.out HC2.out | go_keep) (first | (go_at_call 8; refine T.mono ?_; rintro e w' ⟨rfl, HB, HK, HC1, HC2⟩))
                          clear E T i1 i2 i3 i4 c0 c1 c2 c3 c4 c5 c6 c7 d0 d1 d2 d3 d4 d5 d6 d7 HX
                          cases q
                          · go_wp2
                            exact ⟨⟨p, k + 1, hp, by omega, rfl, by go_num, HS1.out rfl, HB.out, HK.out⟩, by simp [intOf]; omega⟩
                          · go_wp2
                            exact ⟨⟨p + 1, k + 1, by omega, by omega, by go_num, by go_num, HS2.out, HB.out, HK.out⟩, by simp [intOf]; omega⟩
                        · have hpe : p = rel.length := by
                            by_cases h : k < l.length
                            · omega
                            · exact sub_end hSub.out (by omega) hp
                          subst hpe
                          clear hlt hp
                          rcases (by omega : k < l.length ∨ k = l.length) with hlt | hlt
                          · skip
                            have HB : Hid (Below w.heap.size w wr) := hb
                            have HK : Hid (Hist wr w.heap.size gk rel.length rel) := hK
                            clear hb hK hSub
                            go_wp2
                            go_loopw [17, 18] (fun i17 i18 wr => ∃ q k : Nat, k ≤ l.length ∧ i17 = .int .i64 q ∧ i18 = .int .i64 k ∧ Hid (q = ((l.take k).filter (·.ok)).length) ∧ Below w.heap.size w wr ∧ Hist wr w.heap.size gk rel.length rel) (fun _ i18 _ => l.length - (intOf i18).toNat)
                            case atStart => exact ⟨0, 0, Nat.zero_le _, rfl, rfl, rfl, HB.out, HK.out⟩
                            case round =>
                              clear HB HK
                              obtain ⟨q, k, hk, rfl, rfl, hq, hb, hK⟩ := hrel
                              have hqk : q ≤ k := by rw [hq.out]; exact count_le l k
                              by_cases hlt : k < l.length
                              · obtain ⟨b, off, ha, hbw, hat⟩ : ∃ b off, a = some ⟨b, off, none⟩ ∧ b < w.heap.size ∧ ∀ i (h : i < l.length), LineAt w b (off + i * 8) l[i] := by
                                  rcases HC.out with h | h
                                  · rw [h] at hlt; simp at hlt
                                  · exact h
                                subst ha
                                have hc := ((hat k hlt).later hb hbw).c7
                                have hs := count_step hlt
                                rw [← hq.out] at hs
                                have HB : Hid (Below w.heap.size w wr) := hb
                                have HK : Hid (Hist wr w.heap.size gk rel.length rel) := hK
                                clear hat hq hb hK
                                generalize l[k].ok = ok at hc hs
                                have HS : Hid (((l.take (k + 1)).filter (·.ok)).length = q + if ok = true then 1 else 0) := hs
                                clear hs
                                cases ok
                                · go_wp2
                                  exact ⟨⟨q, k + 1, by omega, rfl, by go_num, by unfold Hid; rw [HS.out]; rfl, HB.out, HK.out⟩, by simp [intOf]; omega⟩
                                · go_wp2
                                  exact ⟨⟨q + 1, k + 1, by omega, by go_num, by go_num, by unfold Hid; rw [HS.out]; rfl, HB.out, HK.out⟩, by simp [intOf]; omega⟩
                              · have hkm : k = l.length := by omega
                                subst hkm
                                have HQ : Hid (q = (rel.filter (·.ok)).length) := by
                                  have h1 := hq.out
                                  have h2 := relevant_answered l
                                  rw [HRel.out] at h2
                                  rw [List.take_length] at h1
                                  unfold Hid
                                  rw [h1, h2]
                                have HB : Hid (Below w.heap.size w wr) := hb
                                have HK : Hid (Hist wr w.heap.size gk rel.length rel) := hK
                                clear hb hK hq
                                go_wp2
                                go_loopw [19, 20] (fun i19 i20 wr => ∃ s k : Nat, k ≤ rel.length ∧ i19 = .int .i64 s ∧ i20 = .int .i64 k ∧ Hid (s = ((rel.take k).filter (·.ok)).length) ∧ Below w.heap.size w wr ∧ Hist wr w.heap.size gk rel.length rel) (fun _ i20 _ => rel.length - (intOf i20).toNat)
                                case atStart => exact ⟨0, 0, Nat.zero_le _, rfl, rfl, rfl, HB.out, HK.out⟩
                                case round =>
                                  clear HB HK
                                  obtain ⟨s, k, hk, rfl, rfl, hs, hb, hK⟩ := hrel
                                  have hsk : s ≤ k := by rw [hs.out]; exact count_le rel k
                                  by_cases hlt : k < rel.length
                                  · have hL := hK.at_ k hlt
                                    have hc := hL.c7
                                    have hd := hL.c1
                                    have ht := count_step hlt
                                    rw [← hs.out] at ht
                                    have hng := relevant_noget l rel[k] (by rw [HRel.out]; exact List.getElem_mem hlt)
                                    have HB : Hid (Below w.heap.size w wr) := hb
                                    have HK : Hid (Hist wr w.heap.size gk rel.length rel) := hK
                                    have hkl := hK.hi
                                    clear hL hs hb hK
                                    unfold Line.isGet at hng
                                    generalize rel[k].ok = ok at hc ht hng
                                    generalize rel[k].kind = kd at hd hng
                                    have HS : Hid (((rel.take (k + 1)).filter (·.ok)).length = s + if ok = true then 1 else 0) := ht
                                    clear ht
                                    cases ok
                                    · have hg := hng rfl
                                      clear hng
                                      go_wp2
                                      exact ⟨⟨s, k + 1, by omega, rfl, by go_num, by unfold Hid; rw [HS.out]; rfl, HB.out, HK.out⟩, by simp [intOf]; omega⟩
                                    · clear hng hd
                                      go_wp2
                                      exact ⟨⟨s + 1, k + 1, by omega, by go_num, by go_num, by unfold Hid; rw [HS.out]; rfl, HB.out, HK.out⟩, by simp [intOf]; omega⟩
                                  · have hkm : k = rel.length := by omega
                                    subst hkm
                                    have hsq : s = q := by
                                      have h1 := hs.out
                                      rw [List.take_length] at h1
                                      rw [h1, HQ.out]
                                    subst hsq
                                    have HB : Hid (Below w.heap.size w wr) := hb
                                    clear hb hK hs HQ
                                    go_wp2
                                    go_ret
                                    exact ⟨rfl, HB.out⟩
                          · skip
                            have HB : Hid (Below w.heap.size w wr) := hb
                            have HK : Hid (Hist wr w.heap.size gk rel.length rel) := hK
                            clear hb hK hSub
                            go_wp2
                            go_loopw [17, 18] (fun i17 i18 wr => ∃ q k : Nat, k ≤ l.length ∧ i17 = .int .i64 q ∧ i18 = .int .i64 k ∧ Hid (q = ((l.take k).filter (·.ok)).length) ∧ Below w.heap.size w wr ∧ Hist wr w.heap.size gk rel.length rel) (fun _ i18 _ => l.length - (intOf i18).toNat)
                            case atStart => exact ⟨0, 0, Nat.zero_le _, rfl, rfl, rfl, HB.out, HK.out⟩
                            case round =>
                              clear HB HK
                              obtain ⟨q, k, hk, rfl, rfl, hq, hb, hK⟩ := hrel
                              have hqk : q ≤ k := by rw [hq.out]; exact count_le l k
                              by_cases hlt : k < l.length
                              · obtain ⟨b, off, ha, hbw, hat⟩ : ∃ b off, a = some ⟨b, off, none⟩ ∧ b < w.heap.size ∧ ∀ i (h : i < l.length), LineAt w b (off + i * 8) l[i] := by
                                  rcases HC.out with h | h
                                  · rw [h] at hlt; simp at hlt
                                  · exact h
                                subst ha
                                have hc := ((hat k hlt).later hb hbw).c7
                                have hs := count_step hlt
                                rw [← hq.out] at hs
                                have HB : Hid (Below w.heap.size w wr) := hb
                                have HK : Hid (Hist wr w.heap.size gk rel.length rel) := hK
                                clear hat hq hb hK
                                generalize l[k].ok = ok at hc hs
                                have HS : Hid (((l.take (k + 1)).filter (·.ok)).length = q + if ok = true then 1 else 0) := hs
                                clear hs
                                cases ok
                                · go_wp2
                                  exact ⟨⟨q, k + 1, by omega, rfl, by go_num, by unfold Hid; rw [HS.out]; rfl, HB.out, HK.out⟩, by simp [intOf]; omega⟩
                                · go_wp2
                                  exact ⟨⟨q + 1, k + 1, by omega, by go_num, by go_num, by unfold Hid; rw [HS.out]; rfl, HB.out, HK.out⟩, by simp [intOf]; omega⟩
                              · have hkm : k = l.length := by omega
                                subst hkm
                                have HQ : Hid (q = (rel.filter (·.ok)).length) := by
                                  have h1 := hq.out
                                  have h2 := relevant_answered l
                                  rw [HRel.out] at h2
                                  rw [List.take_length] at h1
                                  unfold Hid
                                  rw [h1, h2]
                                have HB : Hid (Below w.heap.size w wr) := hb
                                have HK : Hid (Hist wr w.heap.size gk rel.length rel) := hK
                                clear hb hK hq
                                go_wp2
                                go_loopw [19, 20] (fun i19 i20 wr => ∃ s k : Nat, k ≤ rel.length ∧ i19 = .int .i64 s ∧ i20 = .int .i64 k ∧ Hid (s = ((rel.take k).filter (·.ok)).length) ∧ Below w.heap.size w wr ∧ Hist wr w.heap.size gk rel.length rel) (fun _ i20 _ => rel.length - (intOf i20).toNat)
                                case atStart => exact ⟨0, 0, Nat.zero_le _, rfl, rfl, rfl, HB.out, HK.out⟩
                                case round =>
                                  clear HB HK
                                  obtain ⟨s, k, hk, rfl, rfl, hs, hb, hK⟩ := hrel
                                  have hsk : s ≤ k := by rw [hs.out]; exact count_le rel k
                                  by_cases hlt : k < rel.length
                                  · have hL := hK.at_ k hlt
                                    have hc := hL.c7
                                    have hd := hL.c1
                                    have ht := count_step hlt
                                    rw [← hs.out] at ht
                                    have hng := relevant_noget l rel[k] (by rw [HRel.out]; exact List.getElem_mem hlt)
                                    have HB : Hid (Below w.heap.size w wr) := hb
                                    have HK : Hid (Hist wr w.heap.size gk rel.length rel) := hK
                                    have hkl := hK.hi
                                    clear hL hs hb hK
                                    unfold Line.isGet at hng
                                    generalize rel[k].ok = ok at hc ht hng
                                    generalize rel[k].kind = kd at hd hng
                                    have HS : Hid (((rel.take (k + 1)).filter (·.ok)).length = s + if ok = true then 1 else 0) := ht
                                    clear ht
                                    cases ok
                                    · have hg := hng rfl
                                      clear hng
                                      go_wp2
                                      exact ⟨⟨s, k + 1, by omega, rfl, by go_num, by unfold Hid; rw [HS.out]; rfl, HB.out, HK.out⟩, by simp [intOf]; omega⟩
                                    · clear hng hd
                                      go_wp2
                                      exact ⟨⟨s + 1, k + 1, by omega, by go_num, by go_num, by unfold Hid; rw [HS.out]; rfl, HB.out, HK.out⟩, by simp [intOf]; omega⟩
                                  · have hkm : k = rel.length := by omega
                                    subst hkm
                                    have hsq : s = q := by
                                      have h1 := hs.out
                                      rw [List.take_length] at h1
                                      rw [h1, HQ.out]
                                    subst hsq
                                    have HB : Hid (Below w.heap.size w wr) := hb
                                    clear hb hK hs HQ
                                    go_wp2
                                    go_ret
                                    exact ⟨rfl, HB.out⟩
end Go.Proofs.Qxb6604392a
