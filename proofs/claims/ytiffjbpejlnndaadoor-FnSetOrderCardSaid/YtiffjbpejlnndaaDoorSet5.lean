/-
  slices.Clone of steps; slices.Reverse of steps. Conditions: at most 2147483647 steps.
-/
import Derived.Test.YtiffjbpejlnndaaDoorSet1
namespace Go.Proofs.YtiffjbpejlnndaaDoor
open Go.RowKit

theorem info70 : (Tryd.prog.info? 70).map (fun i => (i.zero, i.size, i.bytes)) = some (some (.agg #[.int .u8 0, .int .i64 0, .int .i64 0, .int .i64 0]), 4, 32) := by kernel_rfl
theorem eq50 (W : World) (a : Addr) (n c : Nat) : (binOp .eql 50 (.slice (some a) n c) (.slice none 0 0)).run Tryd.prog W = .ok (.bool false) W := by kernel_rfl
theorem eq50n (W : World) (n c : Nat) : (binOp .eql 50 (.slice none n c) (.slice none 0 0)).run Tryd.prog W = .ok (.bool true) W := by kernel_rfl
theorem steps_cells {w : World} {U : Nat} {a : Addr} {l : List Stp} (h : StepsAt w U (some a) l) : ∀ (j : Nat) u, (stepRow l)[j]? = some u → w.cell? (a.add j) = some u := by
  intro j u hj
  have hl : j < (stepRow l).length := by
    rcases Nat.lt_or_ge j (stepRow l).length with h2 | h2
    · exact h2
    · rw [List.getElem?_eq_none h2] at hj
      cases hj
  rw [stepRow_length] at hl
  obtain ⟨a', e, _, hc⟩ := h (by omega)
  injection e with e
  subst e
  obtain ⟨s, hs⟩ : ∃ s, l[j / 4]? = some s := ⟨l[j / 4]'(by omega), List.getElem?_eq_getElem _⟩
  obtain ⟨c0, c1, c2, c3⟩ := hc _ s hs
  obtain ⟨a0, a1, a2, a3⟩ := stepRow_at l _ s hs
  have hr : j % 4 = 0 ∨ j % 4 = 1 ∨ j % 4 = 2 ∨ j % 4 = 3 := by omega
  rcases hr with e | e | e | e
  · have e2 : j = j / 4 * 4 := by omega
    rw [← e2] at a0 c0
    rw [a0] at hj
    injection hj with hj
    rw [c0, hj]
  · have e2 : j = j / 4 * 4 + 1 := by omega
    rw [← e2] at a1 c1
    rw [a1] at hj
    injection hj with hj
    rw [c1, hj]
  · have e2 : j = j / 4 * 4 + 2 := by omega
    rw [← e2] at a2 c2
    rw [a2] at hj
    injection hj with hj
    rw [c2, hj]
  · have e2 : j = j / 4 * 4 + 3 := by omega
    rw [← e2] at a3 c3
    rw [a3] at hj
    injection hj with hj
    rw [c3, hj]
theorem stepRow_one (l : List Stp) : ∀ u ∈ stepRow l, u.oneCell' = true := by
  intro u hu
  unfold stepRow at hu
  simp only [List.mem_flatMap] at hu
  obtain ⟨s, _, hs⟩ := hu
  exact step_one s u hs
def ClonePost (w : World) (l : List Stp) (e : Ending) (w' : World) : Prop := ∃ v, e = .returned v ∧ w'.ownsRow w.heap.size 70 4 v l.length (stepRow l) ∧ Below w.heap.size w w'
set_option maxRecDepth 100000 in
theorem clone_any (w : World) (U : Nat) (A : Option Addr) (c : Nat) (l : List Stp) (h : StepsAt w U A l) (hn : l.length ≤ 2147483647) :
    Calls Tryd.prog 27 #[.slice A l.length c] w (ClonePost w l) := by
  obtain ⟨i0, hi0, hz0, hz1, hz2⟩ := info_parts info70
  cases A with
  | none =>
    have hl : l = [] := by
      cases l with
      | nil => rfl
      | cons s r =>
        obtain ⟨a, e, _⟩ := h (by simp)
        cases e
    subst hl
    have hq := eq50n w 0 c
    clear h
    go_enter Tryd.func27, Tryd.ntmps27
    go_wp2
    go_ret
    exact ⟨_, rfl, World.ownsRow_nil _ _ _ _, Below.refl _ _⟩
  | some a =>
    obtain ⟨n, hnn⟩ : ∃ n, l.length = n := ⟨_, rfl⟩
    have hcells := steps_cells h
    have hlen := stepRow_length l
    rw [hnn] at hn hlen ⊢
    have Hn := Lib.hid hnn
    have hq := eq50 w a n c
    have HC : Hid (∀ (j : Nat) u, (stepRow l)[j]? = some u → (w.alloc (.cells #[] 70)).cell? (a.add j) = some u) := fun j u hj => by
      have := hcells j u hj
      rw [World.cell?_alloc_lt w _ _ (World.block_lt_of_cell? w _ this)]
      exact this
    have HL := Lib.hid hlen
    have HO : Hid ((w.alloc (.cells #[] 70)).ownsRow w.heap.size 70 4 (.slice (some ⟨w.heap.size, 0, none⟩) 0 0) 0 (stepRow [])) := ⟨rfl, .inr ⟨w.heap.size, 0, #[], rfl, Nat.le_refl _, Blk.new _ _ _, Nat.le_refl _, Nat.zero_le _, rfl, rfl⟩⟩
    clear h hnn hcells hlen
    go_enter Tryd.func27, Tryd.ntmps27
    go_wp2_with (at_builtin; refine wpList_append_own _ rfl (.tmp 5) (.tmp 6) 50 rfl w.heap.size 70 i0 _ 4 32 Tryd.underlying50 hi0 hz0 hz1 hz2 rfl (by decide) _ _ _ rfl HO.out a n c (stepRow l) rfl HL.out HC.out (stepRow_one l) (by unfold maxLen; omega) (by omega) (below_box w _).size ?_; intro v' w3 hown' hgrow _)
    have hb3 := (below_box w (.cells #[] 70)).grown hgrow (below_box w (.cells #[] 70)).size (fun j hj => (HO.out.lt j hj).1)
    have HO3 := Lib.hid hown'
    clear hown' hgrow
    go_ret
    refine ⟨v', rfl, ?_, hb3⟩
    have h4 := HO3.out
    rw [Nat.zero_add] at h4
    rw [Hn.out]
    exact h4
end Go.Proofs.YtiffjbpejlnndaaDoor
