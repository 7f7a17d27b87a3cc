import Derived.Test.Qxb6602560aClone
import Derived.Deep.Slices
import Derived.OpenShut
import Derived.ShutString
import Derived.ChangeOld
namespace Go.Proofs.Qxb6602560a
open Go.ChangeShapes Go.WideShapes Go.ChangeAt Go.RowKit Go.Deep
set_option linter.unusedVariables false

theorem own : ownKnob Try.prog.godebug = none := by kernel_rfl
theorem laidOut : laidOutB Try.prog = true := by kernel_rfl

section
variable {H : Type} {enc : TypeId × Value → H} {W : World}

/-- A slice of floats that came in. -/
theorem open_floats {fuel : Nat} {a : Option Addr} {len cap : Nat} {x : DataW H × List MemPlace} (h : DataW.trod enc Try.prog W 0 (fun _ => true) true fuel 22 (Value.slice a len cap).cells.toList = some x) :
    Cells W a len ∧ len ≤ maxLen := by
  have h' : DataW.trod enc Try.prog W 0 (fun _ => true) true fuel 22 [.slice a len cap] = some x := by simpa [Value.cells] using h
  rcases open_slice1 Try.underlying22 (by kernel_rfl) h' with ⟨hcs, _⟩ | ⟨ad, len', cap', m, n, V, D, Pl, hcs, _, hl, hm, hmm, _, hx⟩
  · simp at hcs
    obtain ⟨rfl, rfl, rfl⟩ := hcs
    exact ⟨⟨fun _ => rfl, [], rfl, by simp, fun h => by omega⟩, Nat.zero_le _⟩
  · simp at hcs
    obtain ⟨rfl, rfl, rfl⟩ := hcs
    simp only [if_true] at hmm
    subst hmm
    refine ⟨⟨(fun e => by cases e), (List.range len).map V, by simp, fun v hv => ?_, fun _ => ⟨ad, rfl, fun j v hj => ?_⟩⟩, by omega⟩
    · obtain ⟨i, hi, rfl⟩ := List.mem_map.1 hv
      have hi' : i < len := List.mem_range.1 hi
      obtain ⟨_, h2⟩ := hx i (by omega)
      cases n with
      | zero => simp [DataW.trod] at h2
      | succ n =>
        generalize V i = u at h2
        cases u <;> simp_all [DataW.trod, Try.underlying28, Value.oneCell']
    · rw [List.getElem?_map] at hj
      obtain ⟨i, hi, rfl⟩ := Option.map_eq_some_iff.1 hj
      obtain ⟨hlt, he⟩ := List.getElem?_eq_some_iff.1 hi
      simp at hlt he
      subst he
      exact (hx j (by omega)).1

/-- A slice of bytes that came in. -/
theorem open_bytes {fuel : Nat} {a : Option Addr} {len cap : Nat} {x : DataW H × List MemPlace} (h : DataW.trod enc Try.prog W 0 (fun _ => true) true fuel 23 (Value.slice a len cap).cells.toList = some x) :
    ∃ l : List Nat, l.length = len ∧ Row W a l ∧ len ≤ maxLen := by
  rcases open_ints Try.underlying23 Try.underlying5 (by kernel_rfl) h with ⟨hcs, _⟩ | ⟨x, l, c, zs, hcs, _, hl, hm, hz, _, hcell, hwz⟩
  · simp [Value.cells] at hcs
    obtain ⟨rfl, rfl, rfl⟩ := hcs
    exact ⟨[], rfl, ⟨fun i hi => by simp at hi, .inl rfl⟩, Nat.zero_le _⟩
  · simp [Value.cells] at hcs
    obtain ⟨rfl, rfl, rfl⟩ := hcs
    simp only [if_true] at hz
    have hb : ∀ i, i < zs.length → 0 ≤ zs.getD i 0 ∧ zs.getD i 0 ≤ 255 := by
      intro i hi
      have hwf := hwz (zs.getD i 0) (by rw [List.getD_eq_getElem?_getD, List.getElem?_eq_getElem hi]; exact List.getElem_mem hi)
      generalize zs.getD i 0 = z at hwf
      simp [Lit.wf, IntKind.min, IntKind.max, IntKind.bits, IntKind.signed] at hwf
      omega
    have hg : ∀ i, i < len → (((zs.take len).map Int.toNat).getD i 0 : Nat) = (zs.getD i 0).toNat := by
      intro i hi
      simp only [List.getD_eq_getElem?_getD, List.getElem?_map, List.getElem?_take, hi, if_true]
      rw [List.getElem?_eq_getElem (by omega)]; rfl
    have hlen : ((zs.take len).map Int.toNat).length = len := by simp; omega
    refine ⟨(zs.take len).map Int.toNat, hlen, ⟨fun i hi => ?_, ?_⟩, by omega⟩
    · rw [hg i (by omega)]
      have := hb i (by omega); omega
    · by_cases h0 : len = 0
      · left; exact List.eq_nil_of_length_eq_zero (by omega)
      · right
        obtain ⟨b, off, spot⟩ := x
        have h00 := hcell 0 (by omega)
        have hs : spot = none := by simpa [Addr.add] using World.cell?_spot h00
        subst hs
        refine ⟨b, off, rfl, by simpa [Addr.add] using World.block_lt_of_cell? _ _ h00, fun i hi => ?_⟩
        rw [hg i (by omega), ← add_plain, hcell i (by omega)]
        have := hb i (by omega)
        congr 2; omega
end
end Go.Proofs.Qxb6602560a
