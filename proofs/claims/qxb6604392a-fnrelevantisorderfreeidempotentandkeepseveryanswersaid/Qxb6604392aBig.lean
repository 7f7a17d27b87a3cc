import Derived.Test.Qxb6604392aGuard
namespace Go.Proofs.Qxb6604392a
open Go.ChangeShapes Go.WideShapes Go.ChangeAt Go.RowKit Go.Maps
set_option linter.unusedVariables false

/-- What opsTooBig answers: a bool; false means at most 4096 lines. -/
def BigPost (w : World) (l : List Line) (e : Ending) (w' : World) : Prop := ∃ q : Bool, e = .returned (.bool q) ∧ Below w.heap.size w w' ∧ (q = false → l.length ≤ 4096)

theorem BigPost.mk {w w' : World} {l : List Line} {e : Ending} (q : Bool) (h1 : e = .returned (.bool q)) (h2 : Below w.heap.size w w') (h3 : q = false → l.length ≤ 4096) : BigPost w l e w' := ⟨q, h1, h2, h3⟩

set_option maxHeartbeats 4000000 in
set_option maxRecDepth 100000 in
theorem big_any (a : Option Addr) (c : Nat) (l : List Line) (w : World) (hn : l.length ≤ maxLen) (h : Came w a l) (hz : Sized l) :
    Calls Try.prog 5 #[.slice a l.length c] w fun e w' => BigPost w l e w' := by
  have HC : Hid (Came w a l) := h
  have HZ : Hid (Sized l) := hz
  clear h hz
  unfold maxLen at hn
  by_cases hbig : 4096 < l.length
  · go_enter Try.func5, Try.ntmps5
    go_wp2
    go_ret
    exact BigPost.mk true rfl (Below.refl _ _) (fun h => by cases h)
  have hsm : Hid (l.length ≤ 4096) := by show l.length ≤ 4096; omega
  have hd : decide ((4096 : Int) < (l.length : Int)) = false := by simp; omega
  have hsm' : l.length ≤ 5000 := by omega
  clear hbig
  go_enter Try.func5, Try.ntmps5
  go_wp2
  go_loopw [3, 4] (fun i3 i4 wr => ∃ z k : Nat, z ≤ 1048576 ∧ k ≤ l.length ∧ i3 = .int .i64 z ∧ i4 = .int .i64 k ∧ Below w.heap.size w wr) (fun _ i4 _ => l.length - (intOf i4).toNat)
  case atStart => exact ⟨0, 0, by omega, Nat.zero_le _, rfl, rfl, Below.refl _ _⟩
  case round =>
    obtain ⟨z, k, hz, hk, rfl, rfl, hb⟩ := hrel
    have HB : Hid (Below w.heap.size w wr) := hb
    by_cases hlt : k < l.length
    · obtain ⟨b, off, ha, hbw, hat⟩ : ∃ b off, a = some ⟨b, off, none⟩ ∧ b < w.heap.size ∧ ∀ i (h : i < l.length), LineAt w b (off + i * 8) l[i] := by
        rcases HC.out with h | h
        · rw [h] at hlt; simp at hlt
        · exact h
      subst ha
      have hL := (hat k hlt).later hb hbw
      obtain ⟨s1, s2, s3⟩ := HZ.out l[k] (List.getElem_mem hlt)
      unfold maxLen at s1 s2 s3
      have hBA : Hid (∀ o : Obj, Below w.heap.size w (wr.alloc o)) := fun o => HB.out.alloc HB.out.size _
      clear hat HC HZ hb
      generalize l[k] = x at hL s1 s2 s3
      obtain ⟨x0, x1, x2, x3, x4, x5, x6, x7⟩ := x
      obtain ⟨c0, c1, c2, c3, c4, c5, c6, c7⟩ := hL
      simp only at c0 c1 c2 c3 c4 c5 c6 c7 s1 s2 s3
      by_cases t0 : 1048576 < x1.size
      · go_wp2
        go_ret
        exact BigPost.mk true rfl (hBA.out _) (fun h => by cases h)
      by_cases t1 : 1048576 < x2.size
      · go_wp2
        go_ret
        exact BigPost.mk true rfl (hBA.out _) (fun h => by cases h)
      by_cases t2 : 1048576 < x3.size
      · go_wp2
        go_ret
        exact BigPost.mk true rfl (hBA.out _) (fun h => by cases h)
      by_cases t3 : 1048576 < z + (88 + x1.size + x2.size + x3.size)
      · go_wp2
        go_ret
        exact BigPost.mk true rfl (hBA.out _) (fun h => by cases h)
      go_wp2
      refine ⟨⟨z + (88 + x1.size + x2.size + x3.size), k + 1, by omega, by omega, by go_num, by go_num, hBA.out _⟩, by simp [intOf]; omega⟩
    · clear hb
      go_wp2
      go_ret
      exact BigPost.mk false rfl HB.out (fun _ => hsm.out)
end Go.Proofs.Qxb6604392a
