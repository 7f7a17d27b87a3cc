import Derived.Test.Qxb6604392aBig
import Derived.Test.Qxb6604392aRel
namespace Go.Proofs.Qxb6604392a
open Go.ChangeShapes Go.WideShapes Go.ChangeAt Go.RowKit Go.Maps
set_option linter.unusedVariables false

/-- Do two lines read the same? -/
def same (x y : Line) : Bool := decide (x.client = y.client ∧ x.kind.toList = y.kind.toList ∧ x.key.toList = y.key.toList ∧ x.val.toList = y.val.toList ∧ x.found = y.found ∧ x.call = y.call ∧ x.ret = y.ret ∧ x.ok = y.ok)

theorem same_refl (x : Line) : same x x = true := by simp [same]

theorem eql_lines (x y : Line) (w : World) : (binOp .eql 30 (.agg x.cells) (.agg y.cells)).run Try.prog w = .ok (.bool (same x y)) w := by
  obtain ⟨a0, a1, a2, a3, a4, a5, a6, a7⟩ := x
  obtain ⟨b0, b1, b2, b3, b4, b5, b6, b7⟩ := y
  unfold Line.cells same
  simp only
  go_simp
  by_cases h0 : a0 = b0
  · by_cases h1 : a1.toList = b1.toList
    · by_cases h2 : a2.toList = b2.toList
      · by_cases h3 : a3.toList = b3.toList
        · by_cases h4 : a4 = b4
          · by_cases h5 : a5 = b5
            · by_cases h6 : a6 = b6
              · by_cases h7 : a7 = b7 <;> simp [h0, h1, h2, h3, h4, h5, h6, h7]
              · simp [h0, h1, h2, h3, h4, h5, h6]
            · simp [h0, h1, h2, h3, h4, h5]
          · simp [h0, h1, h2, h3, h4]
        · simp [h0, h1, h2, h3]
      · simp [h0, h1, h2]
    · simp [h0, h1]
  · simp [h0]

theorem zz_any (l : List Line) (base g n c : Nat) (w : World) (hn : l.length ≤ 4096) (hln : l.length ≤ n) (hlc : l.length ≤ c) (hH : Hist w base g n l) (hs : ∀ o ∈ l, o.left.2.size ≤ maxLen) (hv : ∀ o ∈ l, o.val.size ≤ maxLen) (hr : ∀ o ∈ l, -9223372036854775808 ≤ o.ret ∧ o.ret ≤ 9223372036854775807) :
    Calls Try.prog 6 #[.slice (some ⟨g, 0, none⟩) l.length c] w fun e w' => e = .returned (.slice (some ⟨g, 0, none⟩) (relevantL l).length c) ∧ w.grownBy w' (some g) ∧ Hist w' base g n (relevantL l) := by
  have R := rel_any l base g n c w hn hln hlc hH hs hv hr
  clear hH hs hv hr
  go_enter Try.func6, Try.ntmps6
  go_wp2_with fail
  refine R.mono ?_
  rintro e w' ⟨rfl, h1, h2⟩
  go_wp2
  go_ret
  exact ⟨rfl, h1, h2⟩
end Go.Proofs.Qxb6604392a
