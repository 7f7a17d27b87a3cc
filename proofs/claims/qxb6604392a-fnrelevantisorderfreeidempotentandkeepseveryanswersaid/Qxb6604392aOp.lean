import Derived.Test.Qxb6604392aRows
import Derived.WalkKit
import Derived.ProofKit
import Derived.WalkSpells
import Derived.WalkLawsBesides
import Derived.Below
import Derived.Deep.RegionWith
import Derived.Deep.DeepCutAuto
import Derived.Deep.QuietTactic
import Derived.BigQuiet
import Derived.BigRegion
import Derived.Maps.Own
import Derived.Maps.OwnSet
namespace Go.Proofs.Qxb6604392a
open Go.ChangeShapes Go.WideShapes Go.ChangeAt Go.RowKit Go.Maps
set_option linter.unusedVariables false

/-- One line of a history: eight cells. -/
structure Line where
  client : Int
  kind : ByteArray
  key : ByteArray
  val : ByteArray
  found : Bool
  call : Int
  ret : Int
  ok : Bool

/-- The cells of a line. -/
def Line.cells (o : Line) : Array Value := #[.int .i64 o.client, .string o.kind, .string o.key, .string o.val, .bool o.found, .int .i64 o.call, .int .i64 o.ret, .bool o.ok]

theorem Try.size30 : (Try.prog.info? 30).map (·.size) = some 8 := by kernel_rfl
theorem Try.size37 : (Try.prog.info? 37).map (·.size) = some 2 := by kernel_rfl

def Line.isGet (o : Line) : Bool := o.kind.toList == [103, 101, 116]
def Line.isPut (o : Line) : Bool := o.kind.toList == [112, 117, 116]

/-- What a put or a delete leaves. -/
def Line.left (o : Line) : Bool × ByteArray := if o.isPut then (true, o.val) else (false, ⟨#[]⟩)

theorem op_any (o : Line) (w : World) : Calls Try.prog 10 #[.int .i64 o.client, .string o.kind, .string o.key, .string o.val, .bool o.found, .int .i64 o.call, .int .i64 o.ret, .bool o.ok] w fun e w' => e = .returned (.agg o.cells) ∧ w.alloc (.cells o.cells 30) = w' := by
  obtain ⟨a, b, c, d, f, g, h, k⟩ := o
  go_enter Try.func10, Try.ntmps10
  go_wp2
  refine bodyPost_ret (results_cell_row rfl _ _ w.heap.size 30 _ (0, 0) _ rfl (heap_alloc_new _ _) Try.underlying30 rfl Try.size30) rfl ?_
  exact ⟨rfl, rfl⟩

theorem toop_any (o : Line) (w : World) : Calls Try.prog 8 #[.agg o.cells] w fun e w' => e = .returned (.agg o.cells) ∧ Below w.heap.size w w' := by
  have T := op_any o
  obtain ⟨a, b, c, d, f, g, h, k⟩ := o
  unfold Line.cells at T ⊢
  go_enter Try.func8, Try.ntmps8
  go_wp2_with fail
  refine (T _).mono ?_
  rintro e w' ⟨rfl, rfl⟩
  go_wp2
  have H : ∀ A B C : Obj, (((w.alloc A).alloc B).alloc C).heap[w.heap.size + 1]? = some B := fun A B C => (Below.heap_alloc _ _ _ (by simp)).trans (heap_alloc2_new _ _ _)
  refine bodyPost_ret (results_cell_row rfl _ _ (w.heap.size + 1) 30 _ (0, 0) _ rfl (H _ _ _) Try.underlying30 rfl Try.size30) rfl ?_
  exact ⟨rfl, (((Below.refl _ _).alloc (Nat.le_refl _) _).alloc (by simp) _).alloc (by simp; omega) _⟩

theorem read_any (o : Line) (w : World) : Calls Try.prog 11 #[.agg o.cells] w fun e w' => e = .returned (.agg #[.bool o.found, .string o.val]) ∧ (w.alloc (.cells o.cells 30)).alloc (.cells #[.bool o.found, .string o.val] 37) = w' := by
  obtain ⟨a, b, c, d, f, g, h, k⟩ := o
  unfold Line.cells
  go_enter Try.func11, Try.ntmps11
  go_wp2
  refine bodyPost_ret (results_cell_row rfl _ _ (w.heap.size + 1) 37 _ (0, 0) _ rfl (heap_alloc2_new _ _ _) Try.underlying37 rfl Try.size37) rfl ?_
  exact ⟨rfl, rfl⟩

theorem written_any (o : Line) (w : World) : Calls Try.prog 14 #[.agg o.cells] w fun e w' => e = .returned (.agg #[.bool o.left.1, .string o.left.2]) ∧ (w.alloc (.cells o.cells 30)).alloc (.cells #[.bool o.left.1, .string o.left.2] 37) = w' := by
  obtain ⟨a, b, c, d, f, g, h, k⟩ := o
  by_cases hp : (b.toList == [112, 117, 116]) = true
  · unfold Line.left Line.cells Line.isPut
    simp only [hp, if_true]
    go_enter Try.func14, Try.ntmps14
    go_wp2
    refine bodyPost_ret (results_cell_row rfl _ _ (w.heap.size + 1) 37 _ (0, 0) _ rfl (heap_alloc2_new _ _ _) Try.underlying37 rfl Try.size37) rfl ?_
    exact ⟨rfl, rfl⟩
  · have hq : (b.toList == [112, 117, 116]) = false := by simpa using hp
    clear hp
    unfold Line.left Line.cells Line.isPut
    simp only [hq, Bool.false_eq_true, if_false]
    go_enter Try.func14, Try.ntmps14
    go_wp2
    refine bodyPost_ret (results_cell_row rfl _ _ (w.heap.size + 1) 37 _ (0, 0) _ rfl (heap_alloc2_new _ _ _) Try.underlying37 rfl Try.size37) rfl ?_
    exact ⟨rfl, rfl⟩
end Go.Proofs.Qxb6604392a
