/-
  spec.SameNumbers. Conditions: as in Map0.
-/
import Derived.Test.YtiffjbpejlnndaaDoorMap6
namespace Go.Proofs.YtiffjbpejlnndaaDoor
open Go.RowKit Go.Maps

theorem filter_sub (S T : Nat → Bool) (h : ∀ v, S v = true → T v = true) : ∀ n, ((List.range n).filter S).length ≤ ((List.range n).filter T).length ∧ (((List.range n).filter S).length = ((List.range n).filter T).length → ∀ v, v < n → S v = T v)
  | 0 => ⟨Nat.le_refl _, fun _ v hv => absurd hv (Nat.not_lt_zero v)⟩
  | n + 1 => by
    obtain ⟨i1, i2⟩ := filter_sub S T h n
    rw [List.range_succ, List.filter_append, List.filter_append, List.length_append, List.length_append]
    cases hS : S n
    · cases hT : T n
      · have e1 : [n].filter S = [] := by simp [hS]
        have e2 : [n].filter T = [] := by simp [hT]
        rw [e1, e2]
        refine ⟨by simpa using i1, fun he v hv => ?_⟩
        by_cases e : v = n
        · subst e; rw [hS, hT]
        · exact i2 (by simpa using he) v (by omega)
      · have e1 : [n].filter S = [] := by simp [hS]
        have e2 : [n].filter T = [n] := by simp [hT]
        rw [e1, e2]
        simp only [List.length_nil, List.length_cons]
        exact ⟨by omega, fun he => by omega⟩
    · have hT := h n hS
      have e1 : [n].filter S = [n] := by simp [hS]
      have e2 : [n].filter T = [n] := by simp [hT]
      rw [e1, e2]
      refine ⟨by simpa using i1, fun he v hv => ?_⟩
      by_cases e : v = n
      · subst e; rw [hS, hT]
      · exact i2 (by simpa using he) v (by omega)
theorem cnt_sub {S T : Nat → Bool} (h : ∀ v, S v = true → T v = true) (hc : cnt S = cnt T) (hT : ∀ v, 200 < v → T v = false) (hS : ∀ v, 200 < v → S v = false) (v : Nat) : S v = T v := by
  by_cases hv : v < 201
  · exact (filter_sub S T h 201).2 hc v hv
  · rw [hT v (by omega), hS v (by omega)]
theorem cnt_congr {S T : Nat → Bool} (h : ∀ v, S v = T v) : cnt S = cnt T := by
  have : S = T := funext h
  rw [this]

def SameP (w : World) (S1 S2 : Nat → Bool) (e : Ending) (w' : World) : Prop := ∃ b, e = .returned (.bool b) ∧ (b = true ↔ ∀ v, S1 v = S2 v) ∧ Below w.heap.size w w'
def SameInv (w : World) (g1 r n : Nat) (D : DataW Unit) (S1 S2 : Nat → Bool) (wr : World) : Prop :=
  ∃ left c, wr.ranges Tryd.prog 3 (plainElem Tryd.prog 4) g1 r n D left c ∧ (∀ k, left k = true → has D k = true) ∧ (∀ v, S1 v = true → left (key v) = false → S2 v = true) ∧ Below w.heap.size w wr ∧ w.heap.size ≤ r
set_option maxRecDepth 100000 in
theorem same_any (w : World) (g1 g2 n1 n2 : Nat) (S1 S2 : Nat → Bool) (h1 : SetAt w g1 n1 S1) (h2 : SetAt w g2 n2 S2) : Calls Tryd.prog 18 #[.map (some g1), .map (some g2)] w (SameP w S1 S2) := by
  have hl1 := fun ty => h1.len_ ty
  have hl2 := fun ty => h2.len_ ty
  have H2 := Lib.hid h2
  obtain ⟨D1, ho1, hD1⟩ := h1
  obtain ⟨D2, ho2, hD2⟩ := h2
  have HO1 := Lib.hid ho1
  have HD1 := Lib.hid hD1
  have HD2 := Lib.hid hD2
  clear ho1 hD1 ho2 hD2
  by_cases hc : cnt S1 = cnt S2
  · have Hc := Lib.hid hc
    rw [hc] at hl1
    obtain ⟨k, hk⟩ : ∃ k, cnt S2 = k := ⟨_, rfl⟩
    rw [hk] at hl1 hl2
    clear hc hk
    go_enter Tryd.func18, Tryd.ntmps18
    go_wp2_with (at_range; refine wpList_range_own _ rfl _ 37 rfl 3 4 law3 Tryd.underlying37 (plainElem Tryd.prog 4) g1 n1 D1 rfl HO1.out ?_; intro w1 hrg0 hg0 hs0)
    go_frame
    have HU0 : Hid (SameInv w g1 w.heap.size n1 D1 S1 S2 w1) := ⟨_, _, hrg0, (fun k h => h), (fun v hv hl => by rw [HD1.out.has_ v, hv] at hl; cases hl), ⟨hg0.os, hg0.tape, hg0.output, hg0.size, fun i hi => hg0.block i hi (by simp)⟩, Nat.le_refl _⟩
    clear hrg0 hg0 hs0 hl1 hl2
    go_loopw [5] (fun s5 wr => SameInv w g1 w.heap.size n1 D1 S1 S2 wr) (fun _ wr => wr.rangeLeft g1 w.heap.size)
    case atStart => exact HU0
    case round =>
      obtain ⟨left, c, hrg, hl, hsub, hb, h0r⟩ := hrel
      have HL := Lib.hid hl
      have HSub := Lib.hid hsub
      have HB := Lib.hid hb
      clear hl hsub hb
      go_wp2_with (at_next; refine wpList_next_set _ rfl _ rfl 3 4 law3 Tryd.underlying3 Tryd.underlying4 g1 w.heap.size n1 D1 left c rfl hrg ?_ ?_)
      · intro hl0
        have HE : Hid (∀ v, S1 v = S2 v) := cnt_sub (fun v hv => HSub.out v hv (hl0 _)) Hc.out HD2.out.2.2.1 HD1.out.2.2.1
        clear hl0 hrg
        go_wp2
        go_ret
        exact ⟨true, rfl, ⟨fun _ => HE.out, fun _ => rfl⟩, HB.out⟩
      · intro x cc wa c' hlx hrg1 hlt hg1 hs1 hen
        obtain ⟨v, rfl, hv⟩ := key_num HD1.out HL.out hlx
        have hS1 : S1 v = true := by rw [← HD1.out.has_ v]; exact HL.out _ hlx
        have hba : Below w.heap.size w wa := HB.out.grown hg1 HB.out.size (fun j hj => by cases hj; exact Nat.le_refl _)
        have hlook := (H2.out.below hba H2.out.lt).look v (by omega)
        have HBa := Lib.hid hba
        have HR1 := Lib.hid hrg1
        have HR0 := Lib.hid hrg
        have HS1 := Lib.hid hS1
        clear hba hrg1 hrg hg1 hs1 hS1
        cases hS2 : S2 v
        · rw [hS2] at hlook
          have HS2 := Lib.hid hS2
          clear hS2
          go_wp2
          go_ret
          refine ⟨false, rfl, ⟨(fun h => by cases h), fun h => ?_⟩, HBa.out⟩
          have := h v
          rw [HS1.out, HS2.out] at this
          cases this
        · rw [hS2] at hlook
          have HS2 := Lib.hid hS2
          clear hS2
          go_wp2
          try go_frame
          go_roundw
          case rel =>
            refine ⟨_, c', HR1.out, (fun k hk => HL.out k (by simp at hk; exact hk.1)), (fun u hu hlu => ?_), HBa.out, h0r⟩
            by_cases e : u = v
            · subst e; exact HS2.out
            · have : left (key u) = false := by
                rw [same_key, beq_eq_false_iff_ne.2 e] at hlu
                simpa using hlu
              exact HSub.out u hu this
          case measure =>
            rw [HR1.out.left_eq, HR0.out.left_eq]
            exact hlt
  · have Hc := Lib.hid hc
    have hne : ¬ ((cnt S1 : Int) = (cnt S2 : Int)) := by omega
    obtain ⟨k1, hk1⟩ : ∃ k, cnt S1 = k := ⟨_, rfl⟩
    obtain ⟨k2, hk2⟩ : ∃ k, cnt S2 = k := ⟨_, rfl⟩
    rw [hk1] at hl1 hne
    rw [hk2] at hl2 hne
    have hne2 : ¬ k1 = k2 := by omega
    clear hc hk1 hk2
    go_enter Tryd.func18, Tryd.ntmps18
    go_wp2
    go_ret
    exact ⟨false, rfl, ⟨(fun h => by cases h), fun h => absurd (cnt_congr h) Hc.out⟩, Below.refl _ _⟩
end Go.Proofs.YtiffjbpejlnndaaDoor
