import Derived.Test.Qxb6604392aLaw
import Derived.Deep.Slices
import Derived.OpenShut
import Derived.ShutString
import Derived.ChangeOld
namespace Go.Proofs.Qxb6604392a
open Go.ChangeShapes Go.WideShapes Go.ChangeAt Go.RowKit Go.Deep
set_option linter.unusedVariables false

theorem Try.cells33 : Try.prog.cellsOf 33 = 8 := by kernel_rfl
theorem Try.cells3 : Try.prog.cellsOf 3 = 1 := by kernel_rfl
theorem Try.cells9 : Try.prog.cellsOf 9 = 1 := by kernel_rfl
theorem Try.cells4 : Try.prog.cellsOf 4 = 1 := by kernel_rfl
theorem Try.cells2 : Try.prog.cellsOf 2 = 1 := by kernel_rfl

section
variable {H : Type} {enc : TypeId × Value → H} {W : World}

/-- What a line is known to be. -/
def Fit (o : Line) : Prop := o.kind.size ≤ maxLen ∧ o.key.size ≤ maxLen ∧ o.val.size ≤ maxLen ∧ -9223372036854775808 ≤ o.ret ∧ o.ret ≤ 9223372036854775807

/-- One element of the slice that came in. -/
theorem open_line {n : Nat} {cs : List Value} {y : DataW H × List MemPlace} (h : DataW.trod enc Try.prog W 0 (fun _ => true) true n 33 cs = some y) : ∃ x : Line, cs = x.cells.toList ∧ Fit x := by
  obtain ⟨xs, k, _, _, hlen, hxl, hf⟩ := DataW.trod_struct Try.underlying33 h
  rw [Try.cells33] at hlen
  match cs, hlen, xs, hxl with
  | [c0, c1, c2, c3, c4, c5, c6, c7], _, [y0, y1, y2, y3, y4, y5, y6, y7], _ =>
    have g0 := hf 0 _ rfl
    have g1 := hf 1 _ rfl
    have g2 := hf 2 _ rfl
    have g3 := hf 3 _ rfl
    have g4 := hf 4 _ rfl
    have g5 := hf 5 _ rfl
    have g6 := hf 6 _ rfl
    have g7 := hf 7 _ rfl
    simp [Try.cells3, Try.cells9, Try.cells4, Try.cells2] at g0 g1 g2 g3 g4 g5 g6 g7
    obtain ⟨a0, e0, _, _⟩ := DataW.trod_int Try.underlying3 g0
    obtain ⟨a1, e1, _, s1⟩ := DataW.trod_string Try.underlying9 g1
    obtain ⟨a2, e2, _, s2⟩ := DataW.trod_string Try.underlying9 g2
    obtain ⟨a3, e3, _, s3⟩ := DataW.trod_string Try.underlying9 g3
    obtain ⟨a4, e4, _⟩ := DataW.trod_bool Try.underlying4 g4
    obtain ⟨a5, e5, _, _⟩ := DataW.trod_int Try.underlying2 g5
    obtain ⟨a6, e6, _, s6⟩ := DataW.trod_int Try.underlying2 g6
    obtain ⟨a7, e7, _⟩ := DataW.trod_bool Try.underlying4 g7
    simp only [List.cons.injEq, and_true] at e0 e1 e2 e3 e4 e5 e6 e7
    subst e0 e1 e2 e3 e4 e5 e6 e7
    refine ⟨⟨a0, a1, a2, a3, a4, a5, a6, a7⟩, rfl, s1, s2, s3, ?_⟩
    simp [Lit.wf, IntKind.min, IntKind.max, IntKind.bits, IntKind.signed] at s6
    exact s6

/-- A slice of lines that came in. -/
theorem open_lines {fuel : Nat} {a : Option Addr} {len cap : Nat} {x : DataW H × List MemPlace} (h : DataW.trod enc Try.prog W 0 (fun _ => true) true fuel 22 (Value.slice a len cap).cells.toList = some x) :
    ∃ l : List Line, l.length = len ∧ Came W a l ∧ Lined l ∧ len ≤ maxLen := by
  have h' : DataW.trod enc Try.prog W 0 (fun _ => true) true fuel 22 [.slice a len cap] = some x := by simpa [Value.cells] using h
  rcases open_slice Try.underlying22 h' with ⟨hcs, _⟩ | ⟨ad, len', cap', m, n, D, Pl, hcs, _, hl, hm, hmm, _, hx⟩
  · simp at hcs
    obtain ⟨rfl, rfl, rfl⟩ := hcs
    exact ⟨[], rfl, .inl rfl, fun o ho => by simp at ho, Nat.zero_le _⟩
  · simp at hcs
    obtain ⟨rfl, rfl, rfl⟩ := hcs
    simp only [if_true] at hmm
    subst hmm
    rw [Try.cells33] at hx
    have each : ∀ i, i < len → ∃ x : Line, (∀ j, j < 8 → W.cell? (ad.add (i * 8 + j)) = x.cells.toList[j]?) ∧ Fit x := by
      intro i hi
      obtain ⟨cs', h1, h2⟩ := hx i (by omega)
      obtain ⟨x, rfl, hfit⟩ := open_line h2
      obtain ⟨_, _, hcell⟩ := World.cells?_some h1
      refine ⟨x, fun j hj => ?_, hfit⟩
      rw [← hcell j hj, add_add]
    have hin : Inhabited Line := ⟨⟨0, ⟨#[]⟩, ⟨#[]⟩, ⟨#[]⟩, false, 0, 0, false⟩⟩
    obtain ⟨q, hq⟩ := choose_lt each
    refine ⟨(List.range len).map q, by simp, ?_, ?_, by omega⟩
    · by_cases h0 : len = 0
      · left; subst h0; rfl
      · right
        obtain ⟨b, off, spot⟩ := ad
        have h00 := (hq 0 (by omega)).1 0 (by omega)
        have h01 : W.cell? (Addr.add ⟨b, off, spot⟩ (0 * 8 + 0)) = some (.int .i64 (q 0).client) := h00
        have hs : spot = none := by simpa [Addr.add] using World.cell?_spot h01
        subst hs
        refine ⟨b, off, rfl, by simpa [Addr.add] using World.block_lt_of_cell? _ _ h01, fun i hi => ?_⟩
        have hi' : i < len := by simpa using hi
        have hc := (hq i hi').1
        rw [List.getElem_map, List.getElem_range]
        have go : ∀ j, j < 8 → W.cell? ⟨b, off + i * 8 + j, none⟩ = (q i).cells.toList[j]? := fun j hj => by
          rw [← hc j hj, add_plain, Nat.add_assoc]
        exact ⟨go 0 (by omega), go 1 (by omega), go 2 (by omega), go 3 (by omega), go 4 (by omega), go 5 (by omega), go 6 (by omega), go 7 (by omega)⟩
    · intro o ho
      obtain ⟨i, hi, rfl⟩ := List.mem_map.1 ho
      exact (hq i (List.mem_range.1 hi)).2
end
end Go.Proofs.Qxb6604392a
