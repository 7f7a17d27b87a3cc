import Derived.Test.Qxb6604392aHist
namespace Go.Proofs.Qxb6604392a
open Go.ChangeShapes Go.WideShapes Go.ChangeAt Go.RowKit Go.Maps
set_option linter.unusedVariables false

/-- The bounds that hold of every line that came in. -/
def Sized (l : List Line) : Prop := ∀ o ∈ l, o.kind.size ≤ maxLen ∧ o.key.size ≤ maxLen ∧ o.val.size ≤ maxLen

set_option maxHeartbeats 4000000 in
set_option maxRecDepth 100000 in
theorem bytes_any (a : Option Addr) (c : Nat) (l : List Line) (w : World) (hn : l.length ≤ maxLen) (h : Came w a l) (hz : Sized l) :
    Calls Try.prog 4 #[.slice a l.length c] w fun e w' => ∃ q : Bool, e = .returned (.bool q) ∧ w = w' := by
  have HC : Hid (Came w a l) := h
  have HZ : Hid (Sized l) := hz
  clear h hz
  unfold maxLen at hn
  by_cases hbig : 1048576 < l.length
  · go_enter Try.func4, Try.ntmps4
    go_wp2
    go_ret
    exact ⟨_, rfl, rfl⟩
  have hsm : l.length ≤ 1048576 := by omega
  clear hbig
  go_enter Try.func4, Try.ntmps4
  go_wp2
  go_loopw [3, 4] (fun i3 i4 wr => ∃ z k : Nat, z ≤ 1048576 ∧ k ≤ l.length ∧ i3 = .int .i64 z ∧ i4 = .int .i64 k ∧ w = wr) (fun _ i4 _ => l.length - (intOf i4).toNat)
  case atStart => exact ⟨l.length, 0, hsm, Nat.zero_le _, by go_num, rfl, rfl⟩
  case round =>
    obtain ⟨z, k, hz, hk, rfl, rfl, rfl⟩ := hrel
    by_cases hlt : k < l.length
    · obtain ⟨b, off, ha, hbw, hat⟩ : ∃ b off, a = some ⟨b, off, none⟩ ∧ b < w.heap.size ∧ ∀ i (h : i < l.length), LineAt w b (off + i * 8) l[i] := by
        rcases HC.out with h | h
        · rw [h] at hlt; simp at hlt
        · exact h
      subst ha
      have hL := hat k hlt
      obtain ⟨s1, s2, s3⟩ := HZ.out l[k] (List.getElem_mem hlt)
      unfold maxLen at s1 s2 s3
      clear hat HC HZ
      generalize l[k] = x at hL s1 s2 s3
      obtain ⟨x0, x1, x2, x3, x4, x5, x6, x7⟩ := x
      obtain ⟨c0, c1, c2, c3, c4, c5, c6, c7⟩ := hL
      simp only at c0 c1 c2 c3 c4 c5 c6 c7 s1 s2 s3
      by_cases t0 : 1048576 < x1.size
      · go_wp2
        go_ret
        exact ⟨_, rfl, rfl⟩
      by_cases t1 : 1048576 < z + x1.size
      · go_wp2
        go_ret
        exact ⟨_, rfl, rfl⟩
      by_cases t2 : 1048576 < x2.size
      · go_wp2
        go_ret
        exact ⟨_, rfl, rfl⟩
      by_cases t3 : 1048576 < z + x1.size + x2.size
      · go_wp2
        go_ret
        exact ⟨_, rfl, rfl⟩
      by_cases t4 : 1048576 < x3.size
      · go_wp2
        go_ret
        exact ⟨_, rfl, rfl⟩
      by_cases t5 : 1048576 < z + x1.size + x2.size + x3.size
      · go_wp2
        go_ret
        exact ⟨_, rfl, rfl⟩
      go_wp2
      refine ⟨⟨z + x1.size + x2.size + x3.size, k + 1, by omega, by omega, by go_num, by go_num, by trivial⟩, by simp [intOf]; omega⟩
    · go_wp2
      go_ret
      exact ⟨_, rfl, rfl⟩
end Go.Proofs.Qxb6604392a
