/-
  slices.Reverse of steps, in a row of the law's own. Conditions: at most 2147483647 steps.
-/
import Derived.Test.YtiffjbpejlnndaaDoorSet5
namespace Go.Proofs.YtiffjbpejlnndaaDoor
open Go.RowKit

theorem stepRow_set : ∀ (l : List Stp) (k : Nat) (s : Stp), stepRow (l.set k s) = ((((stepRow l).set (k * 4) (.int .u8 (s.op : Int))).set (k * 4 + 1) (.int .i64 s.set)).set (k * 4 + 2) (.int .i64 s.a)).set (k * 4 + 3) (.int .i64 s.b)
  | [], k, s => by simp [stepRow]
  | q :: l, 0, s => rfl
  | q :: l, k + 1, s => by
    have ih := stepRow_set l k s
    have e : ∀ (a : Stp) (m : List Stp), stepRow (a :: m) = .int .u8 (a.op : Int) :: .int .i64 a.set :: .int .i64 a.a :: .int .i64 a.b :: stepRow m := fun _ _ => rfl
    rw [List.set_cons_succ, e, e, ih, show (k + 1) * 4 = k * 4 + 1 + 1 + 1 + 1 by omega, show k * 4 + 1 + 1 + 1 + 1 + 2 = k * 4 + 2 + 1 + 1 + 1 + 1 by omega, show k * 4 + 1 + 1 + 1 + 1 + 3 = k * 4 + 3 + 1 + 1 + 1 + 1 by omega]
    rfl
def put4 (W : World) (g k : Nat) (s : Stp) : World := (((W.setCell ⟨g, k * 4, none⟩ (.int .u8 (s.op : Int))).setCell ⟨g, k * 4 + 1, none⟩ (.int .i64 s.set)).setCell ⟨g, k * 4 + 2, none⟩ (.int .i64 s.a)).setCell ⟨g, k * 4 + 3, none⟩ (.int .i64 s.b)
theorem own_put4 {W : World} {B g n c : Nat} {l : List Stp} (h : W.ownsRow B 70 4 (.slice (some ⟨g, 0, none⟩) n c) n (stepRow l)) (k : Nat) (s : Stp) :
    (put4 W g k s).ownsRow B 70 4 (.slice (some ⟨g, 0, none⟩) n c) n (stepRow (l.set k s)) := by
  rw [stepRow_set]
  exact ((((h.stored (k * 4) _).1.stored (k * 4 + 1) _).1.stored (k * 4 + 2) _).1.stored (k * 4 + 3) _).1
theorem below_put4 {B g : Nat} {w W : World} (h : Below B w W) (hg : B ≤ g) (k : Nat) (s : Stp) : Below B w (put4 W g k s) :=
  (((h.setCell (p := ⟨g, k * 4, none⟩) hg _).setCell (p := ⟨g, k * 4 + 1, none⟩) hg _).setCell (p := ⟨g, k * 4 + 2, none⟩) hg _).setCell (p := ⟨g, k * 4 + 3, none⟩) hg _
/-- Behind k swaps. -/
def RevInv (l L : List Stp) (k : Nat) : Prop := L.length = l.length ∧ ∀ x, x < l.length → L[x]? = if x < k ∨ l.length ≤ x + k then l[l.length - 1 - x]? else l[x]?
theorem RevInv.start (l : List Stp) : RevInv l l 0 := ⟨rfl, fun x hx => by rw [if_neg (by omega)]⟩
theorem RevInv.step {l L : List Stp} {k m : Nat} {sk sm : Stp} (h : RevInv l L k) (hm : m + k + 1 = l.length) (hlt : k < m) (h1 : L[k]? = some sk) (h2 : L[m]? = some sm) : RevInv l ((L.set k sm).set m sk) (k + 1) := by
  obtain ⟨hl, hx⟩ := h
  have ek := hx k (by omega)
  have em := hx m (by omega)
  rw [if_neg (by omega), h1] at ek
  rw [if_neg (by omega), h2] at em
  refine ⟨by rw [List.length_set, List.length_set, hl], fun x hxl => ?_⟩
  by_cases e1 : x = m
  · subst e1
    rw [List.getElem?_set_self (by rw [List.length_set]; omega), if_pos (by omega), show l.length - 1 - x = k by omega]
    exact ek
  · rw [List.getElem?_set_ne (fun e => e1 e.symm)]
    by_cases e2 : x = k
    · subst e2
      rw [List.getElem?_set_self (by omega), if_pos (by omega), show l.length - 1 - x = m by omega]
      exact em
    · rw [List.getElem?_set_ne (fun e => e2 e.symm), hx x hxl]
      by_cases c : x < k ∨ l.length ≤ x + k
      · rw [if_pos c, if_pos (by omega)]
      · rw [if_neg c, if_neg (by omega)]
theorem RevInv.done {l L : List Stp} {k : Nat} (h : RevInv l L k) (hk : l.length ≤ 2 * k + 1) : L = l.reverse := by
  apply List.ext_getElem?
  intro x
  by_cases hx : x < l.length
  · rw [h.2 x hx, List.getElem?_reverse hx]
    by_cases c : x < k ∨ l.length ≤ x + k
    · rw [if_pos c]
    · rw [if_neg c, show l.length - 1 - x = x by omega]
  · rw [List.getElem?_eq_none (by rw [h.1]; omega), List.getElem?_eq_none (by rw [List.length_reverse]; omega)]
def RevPost (w : World) (B n : Nat) (v : Value) (l : List Stp) (e : Ending) (w' : World) : Prop := e = .returned (.tuple #[]) ∧ w'.ownsRow B 70 4 v n (stepRow l.reverse) ∧ Below B w w'
set_option maxRecDepth 100000 in
set_option maxHeartbeats 4000000 in
theorem reverse_any (w : World) (B : Nat) (A : Option Addr) (n c : Nat) (l : List Stp) (h : w.ownsRow B 70 4 (.slice A n c) n (stepRow l)) (hn : l.length = n) (hn2 : n ≤ 2147483647) :
    Calls Tryd.prog 28 #[.slice A n c] w (RevPost w B n (.slice A n c) l) := by
  have H := Lib.hid h
  have Hn := Lib.hid hn
  clear h hn
  go_enter Tryd.func28, Tryd.ntmps28
  go_wp2
  go_loopw [2, 3] (fun s2 s3 wr => ∃ (k : Nat) (m : Int) (L : List Stp), m = (n : Int) - 1 - (k : Int) ∧ k ≤ n ∧ s2 = .int .i64 (k : Int) ∧ s3 = .int .i64 m ∧ Hid (RevInv l L k) ∧ wr.ownsRow B 70 4 (.slice A n c) n (stepRow L) ∧ Below B w wr) (fun s2 _ _ => n - (intOf s2).toNat)
  case atStart => exact ⟨0, _, l, by omega, Nat.zero_le _, rfl, rfl, RevInv.start l, H.out, Below.refl _ _⟩
  case round =>
    obtain ⟨k, m, L, hm, hk, rfl, rfl, hinv, hown, hb⟩ := hrel
    by_cases hlt : (k : Int) < m
    · obtain ⟨j, rfl⟩ := Int.eq_ofNat_of_zero_le (show 0 ≤ m by omega)
      have hjk : j + k + 1 = n := by omega
      have hkj : k < j := by omega
      have hkn : k < n := by omega
      have hjn : j < n := by omega
      have hLl : L.length = n := hinv.out.1.trans Hn.out
      obtain ⟨sk, hsk⟩ : ∃ s, L[k]? = some s := ⟨L[k]'(by omega), List.getElem?_eq_getElem _⟩
      obtain ⟨sm, hsm⟩ : ∃ s, L[j]? = some s := ⟨L[j]'(by omega), List.getElem?_eq_getElem _⟩
      rcases own_form hown with ⟨h0, _⟩ | ⟨g, c', e, hgb, hgl, _, hcell⟩
      · omega
      · injection e with e1 e2 e3
        subst e1
        subst e3
        obtain ⟨a0, a1, a2, a3⟩ := stepRow_at L k sk hsk
        obtain ⟨b0, b1, b2, b3⟩ := stepRow_at L j sm hsm
        have x0 := hcell _ _ a0
        have x1 := hcell _ _ a1
        have x2 := hcell _ _ a2
        have x3 := hcell _ _ a3
        have y0 := hcell _ _ b0
        have y1 := hcell _ _ b1
        have y2 := hcell _ _ b2
        have y3 := hcell _ _ b3
        have f0 := hown.frozenAt (k * 4)
        have f1 := hown.frozenAt (k * 4 + 1)
        have f2 := hown.frozenAt (k * 4 + 2)
        have f3 := hown.frozenAt (k * 4 + 3)
        have g0 := hown.frozenAt (j * 4)
        have g1 := hown.frozenAt (j * 4 + 1)
        have g2 := hown.frozenAt (j * 4 + 2)
        have g3 := hown.frozenAt (j * 4 + 3)
        have n0 : ¬ k = j := by omega
        have n0' : ¬ j = k := by omega
        have n01 : ¬ k * 4 = j * 4 + 1 := by omega
        have n02 : ¬ k * 4 = j * 4 + 2 := by omega
        have n03 : ¬ k * 4 = j * 4 + 3 := by omega
        have n10 : ¬ k * 4 + 1 = j * 4 := by omega
        have n12 : ¬ k * 4 + 1 = j * 4 + 2 := by omega
        have n13 : ¬ k * 4 + 1 = j * 4 + 3 := by omega
        have n20 : ¬ k * 4 + 2 = j * 4 := by omega
        have n21 : ¬ k * 4 + 2 = j * 4 + 1 := by omega
        have n23 : ¬ k * 4 + 2 = j * 4 + 3 := by omega
        have n30 : ¬ k * 4 + 3 = j * 4 := by omega
        have n31 : ¬ k * 4 + 3 = j * 4 + 1 := by omega
        have n32 : ¬ k * 4 + 3 = j * 4 + 2 := by omega
        have m01 : ¬ j * 4 = k * 4 + 1 := by omega
        have m02 : ¬ j * 4 = k * 4 + 2 := by omega
        have m03 : ¬ j * 4 = k * 4 + 3 := by omega
        have m10 : ¬ j * 4 + 1 = k * 4 := by omega
        have m12 : ¬ j * 4 + 1 = k * 4 + 2 := by omega
        have m13 : ¬ j * 4 + 1 = k * 4 + 3 := by omega
        have m20 : ¬ j * 4 + 2 = k * 4 := by omega
        have m21 : ¬ j * 4 + 2 = k * 4 + 1 := by omega
        have m23 : ¬ j * 4 + 2 = k * 4 + 3 := by omega
        have m30 : ¬ j * 4 + 3 = k * 4 := by omega
        have m31 : ¬ j * 4 + 3 = k * 4 + 1 := by omega
        have m32 : ¬ j * 4 + 3 = k * 4 + 2 := by omega
        have HO := Lib.hid hown
        have HB := Lib.hid hb
        have HR := Lib.hid (hinv.out.step (by rw [Hn.out]; exact hjk) hkj hsk hsm)
        have HM := Lib.hid (show (j : Int) - 1 = (n : Int) - 1 - ((k + 1 : Nat) : Int) by omega)
        clear hsk hsm hinv hown hb hcell a0 a1 a2 a3 b0 b1 b2 b3 e2 hLl hm
        go_upto_region 3 with fail
        go_region
        all_goals go_wp2
        all_goals go_roundw
        all_goals first
          | exact ⟨k + 1, (j : Int) - 1, (L.set k sm).set j sk, HM.out, by omega, rfl, rfl, HR, World.ownsRow.drew (own_put4 (own_put4 HO.out k sm) j sk), (below_put4 (below_put4 HB.out hgb k sm) hgb j sk).drew⟩
          | (simp [intOf]; omega)
    · have HB := Lib.hid hb
      have HO := Lib.hid hown
      have hL := hinv.out.done (by rw [Hn.out]; omega)
      have HL := Lib.hid hL
      clear hinv hown hb hL
      go_wp2
      go_end0
      exact ⟨rfl, by rw [← HL.out]; exact HO.out, HB.out⟩
end Go.Proofs.YtiffjbpejlnndaaDoor
