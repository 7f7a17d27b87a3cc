import Derived.Test.Qxb6604392aDrop
namespace Go.Proofs.Qxb6604392a
open Go.ChangeShapes Go.WideShapes Go.ChangeAt Go.RowKit Go.Maps
set_option linter.unusedVariables false

/-- The closure of 'relevant' in world w: it drops what f does not keep. -/
structure Del (w : World) (bm b N : Nat) (f : Bool → ByteArray → Option Int) : Prop where
  cell : w.cell? ⟨bm, 0, none⟩ = some (.map (some b))
  map : MapIs w b N f

theorem Del.later {w w' : World} {bm b N B : Nat} {f : Bool → ByteArray → Option Int} (h : Del w bm b N f) (hb : Below B w w') (h1 : bm < B) (h2 : b < B) : Del w' bm b N f :=
  ⟨(hb.cell (p := ⟨bm, 0, none⟩) h1).trans h.cell, h.map.later hb h2⟩

theorem Del.below {w w' : World} {bm b N : Nat} {f : Bool → ByteArray → Option Int} (h : Del w bm b N f) (hb : Below w.heap.size w w') : Del w' bm b N f :=
  h.later hb (World.block_lt_of_cell? _ _ h.cell) h.map.lt

set_option maxHeartbeats 1000000 in
set_option maxRecDepth 20000 in
theorem index_any (l : List Line) (f : Bool → ByteArray → Option Int) (base g n c bm b N : Nat) (w : World) (hn : l.length ≤ 4096) (hH : Hist w base g n l) (hD : Del w bm b N f) (hs : ∀ o ∈ l, o.left.2.size ≤ maxLen) :
    Calls Try.prog 15 #[.slice (some ⟨g, 0, none⟩) l.length c, .func (.func 13) #[] #[.pointer (some ⟨bm, 0, none⟩)]] w fun e w' => ∃ r : Int, e = .returned (.int .i64 r) ∧ Below w.heap.size w w' ∧
      ((r = -1 ∧ ∀ o ∈ l, keepF f o = true) ∨ ∃ i, r = (i : Nat) ∧ i < l.length ∧ (∀ h : i < l.length, keepF f l[i] = false) ∧ ∀ o ∈ l.take i, keepF f o = true) := by
  have HHi : Hid (Hist w base g n l) := hH
  have HD : Hid (Del w bm b N f) := hD
  have HSz : Hid (∀ o ∈ l, o.left.2.size ≤ maxLen) := hs
  clear hH hD hs
  go_enter Try.func15, Try.ntmps15
  go_wp2
  go_loopw [8] (fun i wr => ∃ k : Nat, k ≤ l.length ∧ i = .int .i64 k ∧ Below w.heap.size w wr ∧ ∀ o ∈ l.take k, keepF f o = true) (fun i _ => l.length - (intOf i).toNat)
  case atStart => exact ⟨0, Nat.zero_le _, rfl, Below.refl _ _, fun o ho => by simp at ho⟩
  case round =>
    obtain ⟨k, hk, rfl, hb, hall⟩ := hrel
    have HA : Hid (∀ o ∈ l.take k, keepF f o = true) := hall
    have HB : Hid (Below w.heap.size w wr) := hb
    by_cases hlt : k < l.length
    · have hL := (HHi.out.at_ k hlt).later hb HHi.out.hi
      have T := drop_any l[k] f bm b N wr (HD.out.below hb).cell (HD.out.below hb).map (HSz.out _ (List.getElem_mem hlt))
      clear hb hall
      obtain ⟨x, hx⟩ : ∃ x, x = l[k] := ⟨_, rfl⟩
      rw [← hx] at hL T
      have HX : Hid (x = l[k]) := hx
      clear hx
      obtain ⟨q, hq⟩ : ∃ q, keepF f x = q := ⟨_, rfl⟩
      rw [hq] at T
      have HQ : Hid (keepF f l[k] = q) := by rw [← HX.out]; exact hq
      clear hq HX
      obtain ⟨x0, x1, x2, x3, x4, x5, x6, x7⟩ := x
      obtain ⟨c0, c1, c2, c3, c4, c5, c6, c7⟩ := hL
      simp only [Line.cells] at c0 c1 c2 c3 c4 c5 c6 c7 T
      cases q
      · go_wp2_with fail
        refine T.mono ?_
        rintro e w2 ⟨rfl, hb2⟩
        go_wp2
        go_ret
        refine ⟨k, rfl, HB.out.trans (hb2.mono HB.out.size), .inr ⟨k, rfl, hlt, fun _ => HQ.out, HA.out⟩⟩
      · go_wp2_with fail
        refine T.mono ?_
        rintro e w2 ⟨rfl, hb2⟩
        go_wp2
        refine ⟨⟨k + 1, by omega, by go_num, HB.out.trans (hb2.mono HB.out.size), fun o ho => ?_⟩, by simp [intOf]; omega⟩
        rw [List.take_succ_eq_append_getElem hlt] at ho
        rcases List.mem_append.1 ho with h | h
        · exact HA.out o h
        · simp at h
          rw [h]; exact HQ.out
    · have hkm : k = l.length := by omega
      clear hall hb
      go_wp2
      go_ret
      refine ⟨-1, rfl, HB.out, .inl ⟨rfl, ?_⟩⟩
      have := HA.out
      rwa [hkm, List.take_length] at this
end Go.Proofs.Qxb6604392a
