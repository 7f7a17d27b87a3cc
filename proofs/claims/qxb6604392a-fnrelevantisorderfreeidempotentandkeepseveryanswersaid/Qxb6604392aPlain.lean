import Derived.Test.Qxb6604392aOp
namespace Go.Proofs.Qxb6604392a
set_option linter.unusedVariables false

/-- Is a line kept, by what the answered gets have found? -/
def keepF (f : Bool → ByteArray → Option Int) (o : Line) : Bool :=
  o.ok || (!o.isGet && match f o.left.1 o.left.2 with | none => false | some last => !decide (last < o.call))

/-- The map's contents behind a store. -/
def upd (f : Bool → ByteArray → Option Int) (p : Bool) (s : ByteArray) (v : Int) : Bool → ByteArray → Option Int := fun p' s' => if p' = p ∧ s' = s then some v else f p' s'

/-- One line's part in lastFound. -/
def stepF (f : Bool → ByteArray → Option Int) (o : Line) : Bool → ByteArray → Option Int :=
  if o.isGet && o.ok then upd f o.found o.val (max ((f o.found o.val).getD 0) o.ret) else f

/-- lastFound behind a list of lines. -/
def lastF (l : List Line) : Bool → ByteArray → Option Int := l.foldl stepF (fun _ _ => none)

theorem stepF_comm (f : Bool → ByteArray → Option Int) (a b : Line) : stepF (stepF f a) b = stepF (stepF f b) a := by
  funext p s
  unfold stepF
  by_cases ha : (a.isGet && a.ok) = true
  · by_cases hb : (b.isGet && b.ok) = true
    · simp only [ha, hb, if_true, upd]
      by_cases e1 : p = a.found ∧ s = a.val
      · obtain ⟨rfl, rfl⟩ := e1
        by_cases e2 : a.found = b.found ∧ a.val = b.val
        · obtain ⟨h1, h2⟩ := e2
          simp only [h1, h2, and_self, if_true, Option.getD_some]
          congr 1
          omega
        · have e3 : ¬ (b.found = a.found ∧ b.val = a.val) := fun h => e2 ⟨h.1.symm, h.2.symm⟩
          simp only [e2, if_false, and_self, if_true]
      · by_cases e2 : p = b.found ∧ s = b.val
        · obtain ⟨rfl, rfl⟩ := e2
          have e3 : ¬ (a.found = b.found ∧ a.val = b.val) := fun h => e1 ⟨h.1.symm, h.2.symm⟩
          simp only [e1, if_false, and_self, if_true]
        · simp only [e1, e2, if_false]
    · simp [ha, hb]
  · by_cases hb : (b.isGet && b.ok) = true
    · simp [ha, hb]
    · simp [ha, hb]

theorem foldF_step (l : List Line) : ∀ (f : Bool → ByteArray → Option Int) (a : Line), l.foldl stepF (stepF f a) = stepF (l.foldl stepF f) a := by
  induction l with
  | nil => intro f a; rfl
  | cons b l ih => intro f a; rw [List.foldl_cons, stepF_comm, ih, List.foldl_cons]

theorem foldF_reverse (l : List Line) : ∀ f : Bool → ByteArray → Option Int, l.reverse.foldl stepF f = l.foldl stepF f := by
  induction l with
  | nil => intro f; rfl
  | cons a l ih => intro f; rw [List.reverse_cons, List.foldl_append, ih, List.foldl_cons, List.foldl_cons, List.foldl_nil, foldF_step]

theorem lastF_reverse (l : List Line) : lastF l.reverse = lastF l := foldF_reverse l _

theorem foldF_filter (g : Bool → ByteArray → Option Int) (l : List Line) : ∀ f : Bool → ByteArray → Option Int, (l.filter (keepF g)).foldl stepF f = l.foldl stepF f := by
  induction l with
  | nil => intro f; rfl
  | cons a l ih =>
    intro f
    by_cases hk : keepF g a = true
    · rw [List.filter_cons_of_pos hk, List.foldl_cons, List.foldl_cons, ih]
    · rw [List.filter_cons_of_neg hk, List.foldl_cons, ih]
      have hok : a.ok = false := by
        unfold keepF at hk
        cases h : a.ok
        · rfl
        · rw [h] at hk; simp at hk
      have : stepF f a = f := by unfold stepF; simp [hok]
      rw [this]

/-- What relevant keeps. -/
def relevantL (l : List Line) : List Line := l.filter (keepF (lastF l))

theorem lastF_relevant (l : List Line) : lastF (relevantL l) = lastF l := foldF_filter _ l _

theorem relevant_reverse (l : List Line) : relevantL l.reverse = (relevantL l).reverse := by
  unfold relevantL
  rw [lastF_reverse, List.filter_reverse]

theorem relevant_again (l : List Line) : relevantL (relevantL l) = relevantL l := by
  have h := lastF_relevant l
  unfold relevantL at h ⊢
  rw [h, List.filter_filter]
  simp

theorem relevant_length (l : List Line) : (relevantL l).length ≤ l.length := List.length_filter_le _ _

theorem relevant_sub (l : List Line) : (relevantL l).Sublist l := List.filter_sublist

/-- Every answered line is kept. -/
theorem relevant_answered (l : List Line) : ((relevantL l).filter (·.ok)).length = (l.filter (·.ok)).length := by
  unfold relevantL
  rw [List.filter_filter]
  congr 1
  apply List.filter_congr
  intro o _
  unfold keepF
  cases o.ok <;> simp

/-- No unanswered get is kept. -/
theorem relevant_noget (l : List Line) (o : Line) (h : o ∈ relevantL l) (hok : o.ok = false) : o.isGet = false := by
  have h2 := (List.mem_filter.1 h).2
  unfold keepF at h2
  rw [hok] at h2
  cases hg : o.isGet
  · rfl
  · rw [hg] at h2; simp at h2
end Go.Proofs.Qxb6604392a
