import Derived.Test.Qxb6604392aHist
import Derived.DeepKeys5
namespace Go.Proofs.Qxb6604392a
open Go.ChangeShapes Go.WideShapes Go.ChangeAt Go.RowKit Go.Maps
set_option linter.unusedVariables false

theorem own : ownKnob Try.prog.godebug = none := by kernel_rfl
theorem laidOut : laidOutB Try.prog = true := by kernel_rfl

theorem keyed : Keyed Try.prog 37 := Keyed.of_law (deep_law_gate laidOut (of_decide_eq_true (by kernel_rfl)) (of_decide_eq_true (by kernel_rfl)) (by kernel_rfl) (by kernel_rfl))

theorem keyType37 : Try.prog.keyType 37 = true := by kernel_rfl
theorem tsize : ∃ m, Try.prog.types.size = m + 1 := ⟨Try.prog.types.size - 1, by have : 1 ≤ Try.prog.types.size := of_decide_eq_true (by kernel_rfl); omega⟩
theorem cells37 : Try.prog.cellsOf 37 = 2 := by kernel_rfl
theorem cells4 : Try.prog.cellsOf 4 = 1 := by kernel_rfl
theorem cells9 : Try.prog.cellsOf 9 = 1 := by kernel_rfl

/-- A register's contents as a key. -/
theorem key_some (p : Bool) (s : ByteArray) (hs : s.size ≤ maxLen) : ∃ l, keyOf Try.prog 37 (.agg #[.bool p, .string s]) = some l := by
  refine ⟨.string (keyBytes [.bool p, .string s.data.toList]), ?_⟩
  obtain ⟨m, hm⟩ := tsize
  unfold keyOf
  simp only [Try.underlying37]
  rw [if_pos (by simp [keyType37, Value.formed, Try.underlying37, cells37]), hm]
  unfold Program.keyLits
  simp only [Try.underlying37, Value.cells]
  rw [if_pos (by rw [cells37]; exact ⟨rfl, by simp⟩)]
  simp only [List.mapM_cons, List.mapM_nil, cells4, cells9]
  simp [Program.keyLits, Try.underlying4, Try.underlying9, hs]

theorem zero28 (w : World) : (zeroValue 28).run Try.prog w = .ok (.int .i64 0) w := by kernel_rfl

/-- Block b is a map of at most N entries that holds just what f says. -/
def MapIs (w : World) (b N : Nat) (f : Bool → ByteArray → Option Int) : Prop :=
  ∃ D : DataW Unit, w.ownsMap Try.prog 37 (plainElem Try.prog 28) b N D ∧ ∀ p s l, keyOf Try.prog 37 (.agg #[.bool p, .string s]) = some l →
    Maps.has D l = (f p s).isSome ∧ D.atKey l (.lit (.int .i64 0)) = .lit (.int .i64 ((f p s).getD 0))

theorem MapIs.new (w : World) : MapIs (w.alloc (.map #[] 0)) w.heap.size 0 (fun _ _ => none) :=
  ⟨.map [], World.ownsMap_made _ _ _ _, fun p s l _ => ⟨rfl, rfl⟩⟩

theorem MapIs.lt {w : World} {b N : Nat} {f : Bool → ByteArray → Option Int} (h : MapIs w b N f) : b < w.heap.size := by
  obtain ⟨D, hD, _⟩ := h
  exact hD.lt

theorem MapIs.of {w w' : World} {b N : Nat} {f : Bool → ByteArray → Option Int} (h : MapIs w b N f) (e : w'.heap[b]? = w.heap[b]?) : MapIs w' b N f := by
  obtain ⟨D, ⟨es, clock, hb, F, hs, hD⟩, hf⟩ := h
  exact ⟨D, ⟨es, clock, e.trans hb, F, hs, hD⟩, hf⟩

theorem MapIs.later {w w' : World} {b N : Nat} {f : Bool → ByteArray → Option Int} (h : MapIs w b N f) {B : Nat} (hb : Below B w w') (hB : b < B) : MapIs w' b N f :=
  h.of (hb.block b hB)

theorem MapIs.mono {w : World} {b N N' : Nat} {f : Bool → ByteArray → Option Int} (h : MapIs w b N f) (hN : N ≤ N') : MapIs w b N' f := by
  obtain ⟨D, hD, hf⟩ := h
  exact ⟨D, hD.mono hN, hf⟩

theorem MapIs.look {w : World} {b N : Nat} {f : Bool → ByteArray → Option Int} (h : MapIs w b N f) (p : Bool) (s : ByteArray) (hs : s.size ≤ maxLen) :
    (Instr.lookup 35 (.map (some b)) (.agg #[.bool p, .string s]) false).run Try.prog w = .ok (.int .i64 ((f p s).getD 0)) w := by
  obtain ⟨D, hD, hf⟩ := h
  obtain ⟨l, hl⟩ := key_some p s hs
  obtain ⟨c, hrun, hat, _⟩ := hD.lookup_int keyed Try.underlying35 Try.underlying28 (zero28 w) hl
  rw [hrun]
  have := hat.symm.trans (hf p s l hl).2
  injection this with this
  injection this with _ this
  rw [this]

theorem MapIs.look_ok {w : World} {b N : Nat} {f : Bool → ByteArray → Option Int} (h : MapIs w b N f) (p : Bool) (s : ByteArray) (hs : s.size ≤ maxLen) :
    (Instr.lookup 35 (.map (some b)) (.agg #[.bool p, .string s]) true).run Try.prog w = .ok (.tuple #[.int .i64 ((f p s).getD 0), .bool (f p s).isSome]) w := by
  obtain ⟨D, hD, hf⟩ := h
  obtain ⟨l, hl⟩ := key_some p s hs
  obtain ⟨v, ps, hrun, hv⟩ := hD.look_ok keyed Try.underlying35 (zero28 w) (plainElem_int Try.underlying28 (by decide)) hl
  obtain ⟨c, rfl, hc, _⟩ := plainElem_int_inv Try.underlying28 hv
  rw [hrun, (hf p s l hl).1]
  have := (congrArg Prod.fst hc).symm.trans (hf p s l hl).2
  injection this with this
  injection this with _ this
  rw [this]

theorem MapIs.put {w : World} {b N : Nat} {f : Bool → ByteArray → Option Int} (h : MapIs w b N f) (hN : N < maxLen) (p : Bool) (s : ByteArray) (hs : s.size ≤ maxLen) (v : Int) (hv : (Lit.int .i64 v).wf = true) :
    ∃ w', (Instr.mapUpdate 35 (.map (some b)) (.agg #[.bool p, .string s]) (.int .i64 v)).run Try.prog w = .ok () w' ∧ MapIs w' b (N + 1) (upd f p s v) ∧ w.mapTurned w' b := by
  obtain ⟨D, hD, hf⟩ := h
  obtain ⟨l, hl⟩ := key_some p s hs
  obtain ⟨w', hrun, hD', ht⟩ := hD.store keyed Try.underlying35 hN hl (plainElem_int Try.underlying28 hv)
  refine ⟨w', hrun, ⟨_, hD', fun p' s' l' hl' => ?_⟩, ht⟩
  by_cases e : l' = l
  · subst e
    have := keyed.inj hl hl'
    simp only [Value.agg.injEq, Array.mk.injEq, List.cons.injEq, Value.bool.injEq, Value.string.injEq] at this
    obtain ⟨rfl, rfl, _⟩ := this
    unfold upd
    rw [Maps.has_put_same hD.isMap (keyed.key hl), Maps.atKey_put_same hD.isMap (keyed.key hl)]
    simp
  · have hne : ¬ (p' = p ∧ s' = s) := by
      rintro ⟨rfl, rfl⟩
      rw [hl] at hl'
      injection hl' with hl'
      exact e hl'.symm
    unfold upd
    rw [Maps.has_put_other e, Maps.atKey_put_other e, if_neg hne]
    exact hf p' s' l' hl'
end Go.Proofs.Qxb6604392a
