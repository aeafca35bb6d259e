/-
  A map from numbers (0 to 200) to true, as a set of numbers: what it reads as behind a put and a deletion; how many. Conditions: none beyond each theorem's own.
-/
import Derived.Test.YtiffjbpejlnndaaDoorRows
import Derived.Test.YtiffjbpejlnndaaDoorMem
import Derived.Test.YtiffjbpejlnndaaDoorBit0
import Derived.Maps.Own
import Derived.Maps.OwnOps
import Derived.Maps.OwnSet
import Derived.Maps.Views
import Derived.Maps.RangeWalk
import Derived.WalkKit
import Derived.WalkArith
namespace Go.Proofs.YtiffjbpejlnndaaDoor
open Go.RowKit Go.Maps

/-- How many numbers up to 200. -/
def cnt (S : Nat → Bool) : Nat := ((List.range 201).filter S).length
theorem filter_put (S : Nat → Bool) (v : Nat) : ∀ n, ((List.range n).filter fun u => u == v || S u).length = ((List.range n).filter S).length + (if v < n then (if S v then 0 else 1) else 0)
  | 0 => by simp
  | n + 1 => by
    have ih := filter_put S v n
    rw [List.range_succ, List.filter_append, List.filter_append, List.length_append, List.length_append, ih]
    by_cases h : n = v
    · subst h
      cases hS : S n <;> simp [hS]
    · have h1 : (n == v) = false := by rw [beq_eq_false_iff_ne]; exact h
      by_cases h2 : v < n
      · rw [if_pos h2, if_pos (show v < n + 1 by omega)]
        cases hS : S n <;> simp [hS, h1] <;> omega
      · rw [if_neg h2, if_neg (show ¬ v < n + 1 by omega)]
        cases hS : S n <;> simp [hS, h1]
theorem filter_del (S : Nat → Bool) (v : Nat) : ∀ n, ((List.range n).filter fun u => u != v && S u).length + (if v < n then (if S v then 1 else 0) else 0) = ((List.range n).filter S).length
  | 0 => by simp
  | n + 1 => by
    have ih := filter_del S v n
    rw [List.range_succ, List.filter_append, List.filter_append, List.length_append, List.length_append]
    by_cases h : n = v
    · subst h
      rw [if_neg (Nat.lt_irrefl n)] at ih
      rw [if_pos (Nat.lt_succ_self n)]
      cases hS : S n <;> simp [hS] <;> omega
    · have h1 : (n != v) = true := by rw [bne_iff_ne]; exact h
      by_cases h2 : v < n
      · rw [if_pos h2] at ih
        rw [if_pos (show v < n + 1 by omega)]
        cases hS : S n <;> simp [hS, h1] <;> omega
      · rw [if_neg h2] at ih
        rw [if_neg (show ¬ v < n + 1 by omega)]
        cases hS : S n <;> simp [hS, h1] <;> omega
theorem cnt_put (S : Nat → Bool) (v : Nat) (h : v ≤ 200) : cnt (fun u => u == v || S u) = cnt S + (if S v then 0 else 1) := by
  unfold cnt
  rw [filter_put, if_pos (by omega)]
theorem cnt_del (S : Nat → Bool) (v : Nat) (h : v ≤ 200) : cnt (fun u => u != v && S u) + (if S v then 1 else 0) = cnt S := by
  have := filter_del S v 201
  rw [if_pos (show v < 201 by omega)] at this
  exact this

abbrev key (v : Nat) : Lit := .int .i64 (v : Int)
theorem key_lit (v : Nat) : WideAt.IsKeyLit (key v) := trivial
theorem key_ne {u v : Nat} (h : u ≠ v) : key u ≠ key v := by
  intro e
  simp [key] at e
  omega
/-- The datum is the set S. -/
def SetD (D : DataW Unit) (S : Nat → Bool) : Prop := Tidy D ∧ (∀ v, v ≤ 200 → has D (key v) = S v) ∧ (∀ v, 200 < v → S v = false) ∧ (∀ k, has D k = true → ∃ v, k = key v ∧ v ≤ 200) ∧ size D = cnt S ∧ ∀ k z, has D k = true → D.atKey k z = .lit (.bool true)
theorem SetD.empty : SetD (.map []) fun _ => false := by
  refine ⟨tidy_empty, fun _ _ => rfl, fun _ _ => rfl, (fun k h => by cases h), ?_, (fun k z h => by cases h)⟩
  unfold cnt
  rw [List.filter_eq_nil_iff.2 (by simp)]
  rfl
theorem SetD.put {D : DataW Unit} {S : Nat → Bool} (h : SetD D S) (v : Nat) (hv : v ≤ 200) : SetD (D.put (key v) (.lit (.bool true))) fun u => u == v || S u := by
  obtain ⟨h1, h2, h3, h4, h5, h6⟩ := h
  refine ⟨h1.put (key_lit v) _, fun u hu => ?_, fun u hu => ?_, fun k hk => ?_, ?_, fun k z hk => ?_⟩
  · by_cases e : u = v
    · subst e
      rw [has_put_same h1.isMap (key_lit u)]
      simp
    · rw [has_put_other (key_ne e), h2 u hu]
      show S u = (u == v || S u)
      rw [beq_eq_false_iff_ne.2 e, Bool.false_or]
  · show (u == v || S u) = false
    rw [beq_eq_false_iff_ne.2 (show u ≠ v by omega), h3 u hu]
    rfl
  · by_cases e : k = key v
    · exact ⟨v, e, hv⟩
    · rw [has_put_other e] at hk
      exact h4 k hk
  · rw [size_put h1, h5, cnt_put S v hv, h2 v hv]
    cases S v <;> rfl
  · by_cases e : k = key v
    · subst e
      exact atKey_put_same h1.isMap (key_lit v) _ _
    · rw [has_put_other e] at hk
      rw [atKey_put_other e]
      exact h6 k z hk
theorem SetD.del {D : DataW Unit} {S : Nat → Bool} (h : SetD D S) (v : Nat) (hv : v ≤ 200) : SetD (D.del (key v)) fun u => u != v && S u := by
  obtain ⟨h1, h2, h3, h4, h5, h6⟩ := h
  refine ⟨h1.del _, fun u hu => ?_, fun u hu => ?_, fun k hk => ?_, ?_, fun k z hk => ?_⟩
  · by_cases e : u = v
    · subst e
      rw [has_del_same]
      simp
    · rw [has_del_other (key_ne e), h2 u hu]
      show S u = (u != v && S u)
      rw [bne_iff_ne.2 e, Bool.true_and]
  · show (u != v && S u) = false
    rw [h3 u hu, Bool.and_false]
  · by_cases e : k = key v
    · exact ⟨v, e, hv⟩
    · rw [has_del_other e] at hk
      exact h4 k hk
  · have := size_del (k := key v) h1
    rw [h2 v hv, h5] at this
    have := cnt_del S v hv
    omega
  · by_cases e : k = key v
    · subst e
      rw [has_del_same] at hk
      cases hk
    · rw [has_del_other e] at hk
      rw [atKey_del_other e]
      exact h6 k z hk
theorem SetD.congr {D : DataW Unit} {S T : Nat → Bool} (h : SetD D S) (e : ∀ v, S v = T v) : SetD D T := by
  have : S = T := funext e
  rw [← this]
  exact h
theorem SetD.at_ {D : DataW Unit} {S : Nat → Bool} (h : SetD D S) (k : Lit) : D.atKey k (.lit (.bool false)) = .lit (.bool (has D k)) := by
  cases hk : has D k
  · rw [atKey_of_not_has hk]
  · exact h.2.2.2.2.2 k _ hk

theorem law3 : Keyed Tryd.prog 3 := int_keyed Tryd.underlying3
/-- Block g is a map that is the set S. -/
def SetAt (w : World) (g n : Nat) (S : Nat → Bool) : Prop := ∃ D : DataW Unit, w.ownsMap Tryd.prog 3 (plainElem Tryd.prog 4) g n D ∧ SetD D S
theorem SetAt.lt {w : World} {g n : Nat} {S : Nat → Bool} (h : SetAt w g n S) : g < w.heap.size := by
  obtain ⟨D, h, _⟩ := h
  exact h.lt
theorem SetAt.below {w w' : World} {g n B : Nat} {S : Nat → Bool} (h : SetAt w g n S) (hb : Below B w w') (hg : g < B) : SetAt w' g n S := by
  obtain ⟨D, ⟨es, clock, q1, q2, q3, q4⟩, h2⟩ := h
  exact ⟨D, ⟨es, clock, (hb.block g hg).trans q1, q2, q3, q4⟩, h2⟩
theorem SetAt.congr {w : World} {g n : Nat} {S T : Nat → Bool} (h : SetAt w g n S) (e : ∀ v, S v = T v) : SetAt w g n T := by
  obtain ⟨D, h1, h2⟩ := h
  exact ⟨D, h1, h2.congr e⟩
theorem key_wf (v : Nat) (h : v ≤ 1000) : (Lit.int .i64 (v : Int)).wf = true := Go.WalkArith.wf_i64 ⟨by omega, by omega⟩
theorem key_of (v : Nat) (h : v ≤ 1000) : keyOf Tryd.prog 3 (.int .i64 (v : Int)) = some (key v) := keyOf_int_mk Tryd.underlying3 (key_wf v h)
end Go.Proofs.YtiffjbpejlnndaaDoor
