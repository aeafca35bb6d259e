/-
  Four interval sets in one variable: what is known of them. Conditions: none.
-/
import Derived.Test.YtiffjbpejlnndaaDoorNum4
import Derived.Deep.RegionHeld3
import Derived.Deep.AppendLies
import Derived.Deep.CutBlock
namespace Go.Proofs.YtiffjbpejlnndaaDoor
open Go.RowKit

def pt (k : Nat) (bs : Nat → Nat) (i : Nat) : Value := if i < k then .pointer (some ⟨bs i, 0, none⟩) else .pointer none
def ptrs (k : Nat) (bs : Nat → Nat) : Array Value := #[pt k bs 0, pt k bs 1, pt k bs 2, pt k bs 3]
def upd {α : Type} (f : Nat → α) (i : Nat) (x : α) : Nat → α := fun j => if j = i then x else f j
theorem upd_self {α : Type} (f : Nat → α) (i : Nat) (x : α) : upd f i x i = x := by simp [upd]
theorem upd_ne {α : Type} (f : Nat → α) {i j : Nat} (x : α) (h : j ≠ i) : upd f i x j = f j := by simp [upd, h]
theorem ptrs_at (k : Nat) (bs : Nat → Nat) {i : Nat} (h : i < 4) : (ptrs k bs)[i]? = some (pt k bs i) := by
  match i, h with
  | 0, _ => rfl
  | 1, _ => rfl
  | 2, _ => rfl
  | 3, _ => rfl
theorem pt_in {k : Nat} {bs : Nat → Nat} {i : Nat} (h : i < k) : pt k bs i = .pointer (some ⟨bs i, 0, none⟩) := by unfold pt; rw [if_pos h]
theorem pt_upd (k : Nat) (bs : Nat → Nat) (b i : Nat) : pt (k + 1) (upd bs k b) i = if i = k then .pointer (some ⟨b, 0, none⟩) else pt k bs i := by
  unfold pt upd
  by_cases e : i = k
  · rw [if_pos (show i < k + 1 by omega), if_pos e, if_pos e]
  · by_cases h : i < k
    · rw [if_pos (show i < k + 1 by omega), if_neg e, if_neg e, if_pos h]
    · rw [if_neg (show ¬ i < k + 1 by omega), if_neg e, if_neg h]
theorem ptrs_set (k : Nat) (bs : Nat → Nat) (b : Nat) (h : k < 4) : (ptrs k bs).setIfInBounds k (.pointer (some ⟨b, 0, none⟩)) = ptrs (k + 1) (upd bs k b) := by
  have e : ptrs (k + 1) (upd bs k b) = #[if 0 = k then .pointer (some ⟨b, 0, none⟩) else pt k bs 0, if 1 = k then .pointer (some ⟨b, 0, none⟩) else pt k bs 1, if 2 = k then .pointer (some ⟨b, 0, none⟩) else pt k bs 2, if 3 = k then .pointer (some ⟨b, 0, none⟩) else pt k bs 3] := by
    unfold ptrs
    rw [pt_upd, pt_upd, pt_upd, pt_upd]
  rw [e]
  match k, h with
  | 0, _ => rfl
  | 1, _ => rfl
  | 2, _ => rfl
  | 3, _ => rfl
/-- The first k sets of the variable at block z. -/
structure FS (w : World) (z k : Nat) (bs : Nat → Nat) (vs : Nat → Value) (F : Nat → List Rng) (W : World) : Prop where
  below : Below w.heap.size w W
  ge : w.heap.size ≤ z
  blk : Blk W z 101 (ptrs k bs)
  is : ∀ i, i < k → IS W w.heap.size (bs i) (vs i) (F i)
  apart : ∀ i j, i < k → j < k → i ≠ j → Apart (bs i) (bs j) (vs i) (vs j)
theorem FS.keep {w W W' : World} {z k : Nat} {bs : Nat → Nat} {vs : Nat → Value} {F : Nat → List Rng} (h : FS w z k bs vs F W) (hb : Below W.heap.size W W') : FS w z k bs vs F W' :=
  ⟨below_tr h.below (Nat.le_refl _) hb, h.ge, h.blk.below hb h.blk.lt, fun i hi => (h.is i hi).below hb, h.apart⟩
theorem FS.alloc {w W : World} {z k : Nat} {bs : Nat → Nat} {vs : Nat → Value} {F : Nat → List Rng} (h : FS w z k bs vs F W) (o : Obj) : FS w z k bs vs F (W.alloc o) := h.keep (below_box _ _)
theorem FS.drew {w W : World} {z k : Nat} {bs : Nat → Nat} {vs : Nat → Value} {F : Nat → List Rng} (h : FS w z k bs vs F W) : FS w z k bs vs F W.drew := h.keep (Below.refl _ _).drew
theorem FS.start (w : World) : FS w w.heap.size 0 (fun _ => 0) (fun _ => .slice none 0 0) F0 (w.alloc (.cells #[.pointer none, .pointer none, .pointer none, .pointer none] 101)) :=
  ⟨below_box _ _, Nat.le_refl _, Blk.new _ _ _, fun i hi => absurd hi (Nat.not_lt_zero i), fun i _ hi => absurd hi (Nat.not_lt_zero i)⟩
theorem FS.cell {w W : World} {z k : Nat} {bs : Nat → Nat} {vs : Nat → Value} {F : Nat → List Rng} (h : FS w z k bs vs F W) {i : Nat} (hi : i < k) (h4 : i < 4) : W.cell? ⟨z, i, none⟩ = some (.pointer (some ⟨bs i, 0, none⟩)) := by
  rw [h.blk.cell, ptrs_at k bs h4, pt_in hi]
theorem IS.far {W : World} {B b z : Nat} {v : Value} {l : List Rng} {t : TypeId} {cs : Array Value} (h : IS W B b v l) (hz : Blk W z t cs) (h1 : t ≠ 142) (h2 : t ≠ 109) (i : Nat) (u : Value) : IS (W.setCell ⟨z, i, none⟩ u) B b v l :=
  ⟨h.1, h.2.1.far (p := ⟨z, i, none⟩) (h.2.1.ne_ hz (fun e => h1 e.symm)) u, own_far h.2.2.1 hz (fun e => h2 e.symm) i u, h.2.2.2⟩
/-- One more set. -/
theorem FS.new {w W W1 : World} {z k b : Nat} {bs : Nat → Nat} {vs : Nat → Value} (h : FS w z k bs vs F0 W) (hk : k < 4) (hb : Below W.heap.size W W1) (hs : IS W1 W.heap.size b (.slice none 0 0) []) :
    FS w z (k + 1) (upd bs k b) (upd vs k (.slice none 0 0)) F0 (W1.setCell ⟨z, k, none⟩ (.pointer (some ⟨b, 0, none⟩))) := by
  have h1 := h.keep hb
  refine ⟨h1.below.setCell (p := ⟨z, k, none⟩) h.ge _, h.ge, by rw [← ptrs_set k bs b hk]; exact h1.blk.set_ k _, fun i hi => ?_, fun i j hi hj hne => ?_⟩
  · by_cases e : i = k
    · subst e
      rw [upd_self, upd_self]
      have hsz := h.below.size
      have : IS W1 w.heap.size b (.slice none 0 0) [] := ⟨Nat.le_trans hsz hs.1, hs.2.1, hs.2.2.1.mono hsz, hs.2.2.2⟩
      exact this.far h1.blk (by decide) (by decide) _ _
    · rw [upd_ne _ _ e, upd_ne _ _ e]
      exact (h1.is i (by omega)).far h1.blk (by decide) (by decide) _ _
  · by_cases e : i = k
    · have ej : j ≠ k := fun e2 => hne (e.trans e2.symm)
      rw [e, upd_self, upd_self, upd_ne _ _ ej, upd_ne _ _ ej]
      have hlt := (h.is j (by omega)).2.1.lt
      have := hs.1
      exact ⟨by omega, fun g hg => by cases hg⟩
    · rw [upd_ne _ _ e, upd_ne _ _ e]
      by_cases ej : j = k
      · rw [ej, upd_self, upd_self]
        have hlt := (h.is i (by omega)).2.1.lt
        have := hs.1
        exact ⟨by omega, fun g _ hh => by cases hh⟩
      · rw [upd_ne _ _ ej, upd_ne _ _ ej]
        exact h.apart i j (by omega) (by omega) hne
theorem Apart.symm {b b2 : Nat} {v v2 : Value} (h : Apart b b2 v v2) : Apart b2 b v2 v := ⟨fun e => h.1 e.symm, fun g h2 h1 => h.2 g h1 h2⟩
/-- One of the sets has grown. -/
theorem FS.grow {w W W' : World} {z si : Nat} {bs : Nat → Nat} {vs : Nat → Value} {F : Nat → List Rng} {v' : Value} {m : List Rng} (h : FS w z 4 bs vs F W) (hs : si < 4) (hg : GrowV W w.heap.size (bs si) (vs si) v' m W') :
    FS w z 4 bs (upd vs si v') (putF F si m) W' := by
  have hi := h.is si hs
  refine ⟨h.below.trans (hg.2.1.below hi h.below.size), h.ge, hg.2.1.blk hi h.blk (by decide) ?_, fun i hi4 => ?_, fun i j hi4 hj4 hne => ?_⟩
  · exact fun e => (h.blk.ne_ hi.2.1 (by decide)) e
  · by_cases e : i = si
    · subst e
      rw [upd_self, putF_self]
      exact hg.1
    · rw [upd_ne _ _ e, putF_ne F m e]
      exact hg.other hi (h.is i hi4) (h.apart si i hs hi4 (fun e2 => e e2.symm))
  · by_cases e : i = si
    · have ej : j ≠ si := fun e2 => hne (e.trans e2.symm)
      rw [e, upd_self, upd_ne _ _ ej]
      exact hg.apart (h.is j hj4) (h.apart si j hs hj4 (fun e2 => ej e2.symm))
    · rw [upd_ne _ _ e]
      by_cases ej : j = si
      · rw [ej, upd_self]
        exact (hg.apart (h.is i hi4) (h.apart si i hs hi4 (fun e2 => e e2.symm))).symm
      · rw [upd_ne _ _ ej]
        exact h.apart i j hi4 hj4 hne
/-- A step that is asked. -/
theorem stepP_some {F G : Nat → List Rng} {s : Stp} (h : stepP F s = some G) :
    ∃ si m, s.set = ((si : Nat) : Int) ∧ si < 4 ∧ G = putF F si m ∧ ((s.op = 0 ∧ addP (F si) s.a s.a = some m) ∨ (s.op = 1 ∧ addP (F si) s.a s.b = some m) ∨ (s.op = 2 ∧ ∃ ai : Nat, s.a = (ai : Int) ∧ ai < 4 ∧ ai ≠ si ∧ addAll (F si) (F ai) = some m)) := by
  unfold stepP at h
  split at h
  · rename_i hc
    cases hl : newL F s with
    | none => rw [hl] at h; cases h
    | some m =>
      rw [hl] at h
      injection h with h
      refine ⟨s.set.toNat, m, by omega, by omega, h.symm, ?_⟩
      unfold newL at hl
      split at hl
      · rename_i e
        exact .inl ⟨e, hl⟩
      · split at hl
        · rename_i e
          exact .inr (.inl ⟨e, hl⟩)
        · split at hl
          · rename_i e1 e2 e3
            exact .inr (.inr ⟨by omega, s.a.toNat, by omega, by omega, by omega, hl⟩)
          · cases hl
  · cases h
theorem steps_some {l : List Stp} {F G : Nat → List Rng} {k : Nat} {s : Stp} (hs : l[k]? = some s) (hF : stepsP F0 (l.take k) = some F) (hG : stepsP F0 l = some G) : ∃ K, stepP F s = some K ∧ stepsP F0 (l.take (k + 1)) = some K := by
  cases h : stepP F s with
  | none =>
    rw [steps_none hs hF h] at hG
    cases hG
  | some K => exact ⟨K, rfl, (stepsP_take hs hF).trans h⟩

/-- What a set tells of numbers that are asked. -/
def hasI (l : List Rng) (asks : List Int) : List Value := asks.map fun u => Value.bool (memB l u)
theorem hasI_snoc (l : List Rng) (asks : List Int) (k : Nat) (u : Int) (h : asks[k]? = some u) : hasI l (asks.take (k + 1)) = hasI l (asks.take k) ++ [.bool (memB l u)] := by
  rw [take_at h]
  simp [hasI]
/-- The cells of what the first k sets tell. -/
def toldRow (hs rs : Nat → Value) (F : Nat → List Rng) : Nat → List Value
  | 0 => []
  | k + 1 => toldRow hs rs F k ++ [hs k, .int .i64 (lenR (F k)), .int .i64 (leastI (F k)), rs k, .string (textI (F k))]
theorem toldRow_ext {hs rs hs' rs' : Nat → Value} {F : Nat → List Rng} : ∀ {k : Nat}, (∀ j, j < k → hs j = hs' j ∧ rs j = rs' j) → toldRow hs rs F k = toldRow hs' rs' F k
  | 0, _ => rfl
  | k + 1, h => by
    unfold toldRow
    rw [toldRow_ext fun j hj => h j (by omega), (h k (by omega)).1, (h k (by omega)).2]
def Told (w : World) (F : Nat → List Rng) (asks : List Int) (k : Nat) (tv : Value) (W : World) : Prop :=
  ∃ hs rs, W.ownsRow w.heap.size 60 5 tv k (toldRow hs rs F k) ∧ ∀ j, j < k → W.ownsRow w.heap.size 4 1 (hs j) asks.length (hasI (F j) asks) ∧ W.ownsRow w.heap.size 62 2 (rs j) (F j).length (rowJ (F j))
def SetsTold (w : World) (F : Nat → List Rng) (asks : List Int) (e : Ending) (w' : World) : Prop := ∃ tv x, e = .returned (.tuple #[tv, .bool x]) ∧ Below w.heap.size w w' ∧ Told w F asks 4 tv w'
theorem Told.keep {w W W' : World} {F : Nat → List Rng} {asks : List Int} {k : Nat} {tv : Value} (h : Told w F asks k tv W) (hb : Below W.heap.size W W') : Told w F asks k tv W' := by
  obtain ⟨hs, rs, h1, h2⟩ := h
  exact ⟨hs, rs, own_below h1 hb, fun j hj => ⟨own_below (h2 j hj).1 hb, own_below (h2 j hj).2 hb⟩⟩
end Go.Proofs.YtiffjbpejlnndaaDoor
