import Derived.Test.Qxb6602030aClone
namespace Go.Proofs.Qxb6602030a
open Go.ChangeShapes Go.WideShapes Go.ChangeAt Go.RowKit
set_option linter.unusedVariables false

/-- What the shell tells of a slice of bytes, as 'Row' says it. -/
theorem row_of {w : World} {a : Option Addr} {len cap : Nat} {zs : List Int}
    (h : (a = none ∧ len = 0 ∧ cap = 0 ∧ zs = []) ∨ ∃ x, a = some x ∧ len ≤ cap ∧ cap ≤ maxLen ∧ zs.length = cap ∧ (∀ i, i < zs.length → w.cell? (x.add i) = some (.int .u8 (zs.getD i 0))) ∧ ∀ n ∈ zs, (Lit.int .u8 n).wf = true) :
    ∃ l : List Int, l.length = len ∧ Row w a l ∧ len ≤ maxLen := by
  rcases h with ⟨rfl, rfl, rfl, rfl⟩ | ⟨x, rfl, hl, hm, hz, hc, hw⟩
  · exact ⟨[], rfl, ⟨fun i hi => by simp at hi, .inl rfl⟩, Nat.zero_le _⟩
  · have hg : ∀ i, i < len → (zs.take len).getD i 0 = zs.getD i 0 := by
      intro i hi
      simp [List.getD_eq_getElem?_getD, hi]
    have hlen : (zs.take len).length = len := by simp; omega
    refine ⟨zs.take len, hlen, ⟨fun i hi => ?_, ?_⟩, by omega⟩
    · rw [hg i (by omega)]
      have hi' : i < zs.length := by omega
      have hwf := hw (zs.getD i 0) (by rw [List.getD_eq_getElem?_getD, List.getElem?_eq_getElem hi']; exact List.getElem_mem hi')
      generalize zs.getD i 0 = z at hwf
      simp [Lit.wf, IntKind.min, IntKind.max, IntKind.bits, IntKind.signed] at hwf
      omega
    · by_cases h0 : len = 0
      · left; exact List.eq_nil_of_length_eq_zero (by omega)
      · right
        obtain ⟨b, off, spot⟩ := x
        have h00 := hc 0 (by omega)
        have hs : spot = none := by simpa [Addr.add] using World.cell?_spot h00
        subst hs
        refine ⟨b, off, rfl, by simpa [Addr.add] using World.block_lt_of_cell? _ _ h00, fun i hi => ?_⟩
        rw [hg i (by omega)]
        rw [← add_plain]; exact hc i (by omega)

theorem i64_bounds {n : Int} (h : (Lit.int .i64 n).wf = true) : -9223372036854775808 ≤ n ∧ n ≤ 9223372036854775807 := by
  simp [Lit.wf, IntKind.min, IntKind.max, IntKind.bits, IntKind.signed] at h
  omega
end Go.Proofs.Qxb6602030a
