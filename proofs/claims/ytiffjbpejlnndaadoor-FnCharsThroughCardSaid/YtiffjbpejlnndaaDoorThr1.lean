/-
  What the steps of FnCharsThrough tell, plainly. Conditions: none.
-/
import Derived.Test.YtiffjbpejlnndaaDoorStr6
namespace Go.Proofs.YtiffjbpejlnndaaDoor

def thOne : List (Int × Int) := [(1, 1), (0, 0), (1, -1)]
def thSteps : Nat → List (Int × Int)
  | 0 => []
  | k + 1 => thSteps k ++ thOne
def thEnd : List (Int × Int) := [(1, 1), (4, 0), (0, 0)]
def thTold (l : List Nat) : List (Int × Bool) := l.flatMap fun r : Nat => [((r : Int), false), (0, false), ((r : Int), false)]
def thLast (n : Nat) : List (Int × Bool) := [(-1, false), ((n : Int), false), (0, true)]

theorem thSteps_length (k : Nat) : (thSteps k).length = 3 * k := by
  induction k with
  | zero => rfl
  | succ k ih => simp [thSteps, thOne, ih]; omega
theorem thSteps_cons (k : Nat) : thSteps (k + 1) = thOne ++ thSteps k := by
  induction k with
  | zero => rfl
  | succ k ih => rw [thSteps, ih, List.append_assoc, ← thSteps, ih]
theorem thTold_length (l : List Nat) : (thTold l).length = 3 * l.length := by
  induction l with
  | nil => rfl
  | cons r l ih => simp only [thTold, List.flatMap_cons, List.length_append, List.length_cons, List.length_nil] at ih ⊢; omega
theorem thTold_at (l : List Nat) : ∀ (i r : Nat), l[i]? = some r → (thTold l)[3 * i]? = some ((r : Int), false) ∧ (thTold l)[3 * i + 2]? = some ((r : Int), false) := by
  induction l with
  | nil => intro i r h; simp at h
  | cons q l ih =>
    intro i r h
    have e : thTold (q :: l) = ((q : Int), false) :: (0, false) :: ((q : Int), false) :: thTold l := rfl
    cases i with
    | zero =>
      simp at h
      subst h
      simp [e]
    | succ i =>
      have h' := ih i r (by simpa using h)
      rw [e, show 3 * (i + 1) = 3 * i + 1 + 1 + 1 by omega]
      simpa using h'
theorem th_all (l : List Nat) : ∀ (k i : Nat), i + k = l.length → doSteps l i (thSteps k ++ thEnd) = some (thTold (l.drop i) ++ thLast l.length)
  | 0, i, h => by
    obtain rfl : i = l.length := by omega
    simp [thSteps, thEnd, doSteps, doStep, chAt, thTold, thLast]
  | k + 1, i, h => by
    have hi : i < l.length := by omega
    have hd : l.drop i = l[i] :: l.drop (i + 1) := List.drop_eq_getElem_cons hi
    have ht : thTold (l.drop i) = ((l[i] : Int), false) :: (0, false) :: ((l[i] : Int), false) :: thTold (l.drop (i + 1)) := by rw [hd]; rfl
    rw [thSteps_cons, List.append_assoc, ht]
    simp only [thOne, List.cons_append, List.nil_append]
    have ih := th_all l k (i + 1) (by omega)
    simp [doSteps, doStep, chAt, hi, ih]
theorem th_told (l : List Nat) : doSteps l 0 (thSteps l.length ++ thEnd) = some (thTold l ++ thLast l.length) := by
  have := th_all l l.length 0 (by omega)
  simpa using this
end Go.Proofs.YtiffjbpejlnndaaDoor
