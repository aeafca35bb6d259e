/-
  laws.FnBitsText answers true. Conditions: the library's two tables as they are laid.
-/
import Derived.Test.YtiffjbpejlnndaaDoorMap7
import Derived.Test.YtiffjbpejlnndaaDoorInj
import Derived.Test.YtiffjbpejlnndaaDoorOr3
namespace Go.Proofs.YtiffjbpejlnndaaDoor
open Go.RowKit Go.Maps

set_option maxRecDepth 100000 in
theorem tx_big (w : World) (A1 A2 : Option Addr) (c1 c2 n1 n2 : Nat) (h : 2147483647 < n1 ∨ 2147483647 < n2) :
    Calls Tryd.prog 6 #[.slice A1 n1 c1, .slice A2 n2 c2] w (Saw w (.bool true)) := by
  by_cases b1 : 2147483647 < n1
  · clear h
    go_enter Tryd.func6, Tryd.ntmps6
    go_wp2
    go_ret
    exact ⟨rfl, Below.refl _ _⟩
  · have b2 : 2147483647 < n2 := by omega
    clear h
    go_enter Tryd.func6, Tryd.ntmps6
    go_wp2
    go_ret
    exact ⟨rfl, Below.refl _ _⟩

set_option maxRecDepth 100000 in
set_option maxHeartbeats 1000000 in
theorem tx_no (w : World) (U : Nat) (A1 A2 : Option Addr) (c1 c2 : Nat) (l1 l2 : List Int) (h1 : IntsAt w U A1 l1) (h2 : IntsAt w U A2 l2) (hU : U ≤ w.heap.size) (hT : Tabs w)
    (m1 : l1.length ≤ 2147483647) (m2 : l2.length ≤ 2147483647) (hno : (okB 200 l1) = false ∨ (okB 200 l2) = false ∨ 100 < l1.length + l2.length) :
    Calls Tryd.prog 6 #[.slice A1 l1.length c1, .slice A2 l2.length c2] w (Saw w (.bool true)) := by
  obtain ⟨b1, hb1⟩ : ∃ b, okB 200 l1 = b := ⟨_, rfl⟩
  obtain ⟨b2, hb2⟩ : ∃ b, okB 200 l2 = b := ⟨_, rfl⟩
  rw [hb1, hb2] at hno
  have HT := Lib.hid hT
  have C1 : Hid (∀ W, Below w.heap.size w W → Calls Tryd.prog 13 #[.slice A1 l1.length c1, .slice none 0 0] W (OfAny W b1)) := fun W h =>
    bitsOf_either W U A1 none c1 0 l1 [] (h1.below h hU) (IntsAt.nil _ _) (Nat.le_trans hU h.size) m1 (by decide) (by rw [hb1]; simp [okB])
  have C2 : Hid (∀ W, Below w.heap.size w W → Calls Tryd.prog 13 #[.slice A2 l2.length c2, .slice none 0 0] W (OfAny W b2)) := fun W h =>
    bitsOf_either W U A2 none c2 0 l2 [] (h2.below h hU) (IntsAt.nil _ _) (Nat.le_trans hU h.size) m2 (by decide) (by rw [hb2]; simp [okB])
  obtain ⟨n1, e1⟩ : ∃ n, l1.length = n := ⟨_, rfl⟩
  obtain ⟨n2, e2⟩ : ∃ n, l2.length = n := ⟨_, rfl⟩
  rw [e1] at m1 hno C1 ⊢
  rw [e2] at m2 hno C2 ⊢
  clear h1 h2 hT hb1 hb2 e1 e2
  go_enter Tryd.func6, Tryd.ntmps6
  go_upto_region 5 with (first
    | (go_at_call 13; go_fit (C1.out _ (Below.refl _ _)); rintro e w1 ⟨v1, rfl, hb⟩; have HB1 := Lib.hid hb; clear hb)
    | (go_at_call 13; go_fit (C2.out _ HB1.out); rintro e w2 ⟨v2, rfl, hb⟩; have HB2 := Lib.hid (below_tr HB1.out (Nat.le_refl _) hb); clear hb))
  cases b1
  · clear hno
    go_wp2_with (go_at_call 15; go_fit (bitAwake_yes _ (HT.out.below HB2.out)); rintro e w4 ⟨rfl, hb⟩; have HB3 := Lib.hid (below_tr HB2.out (Nat.le_refl _) hb); clear hb)
    go_ret
    exact ⟨rfl, HB3.out⟩
  · cases b2
    · clear hno
      go_wp2_with (go_at_call 15; go_fit (bitAwake_yes _ (HT.out.below HB2.out)); rintro e w4 ⟨rfl, hb⟩; have HB3 := Lib.hid (below_tr HB2.out (Nat.le_refl _) hb); clear hb)
      go_ret
      exact ⟨rfl, HB3.out⟩
    · have x1 : 100 < n1 + n2 := by
        rcases hno with h | h | h
        · cases h
        · cases h
        · exact h
      clear hno
      go_wp2_with (go_at_call 15; go_fit (bitAwake_yes _ (HT.out.below HB2.out)); rintro e w4 ⟨rfl, hb⟩; have HB3 := Lib.hid (below_tr HB2.out (Nat.le_refl _) hb); clear hb)
      go_ret
      exact ⟨rfl, HB3.out⟩

theorem els_same {ps qs : List Nat} (hp : ps.length ≤ 16) (hq : qs.length ≤ 16) (h1 : ∀ v, 200 < v → inB ps v = false) (h2 : ∀ v, 200 < v → inB qs v = false) : els ps ps.length = els qs qs.length ↔ ∀ v, inB ps v = inB qs v := by
  rw [els_set ps hp h1, els_set qs hq h2]
  constructor
  · intro h v
    by_cases hv : v ≤ 200
    · have e : v ∈ (List.range 201).filter (inB ps) ↔ v ∈ (List.range 201).filter (inB qs) := by rw [h]
      simp only [List.mem_filter, List.mem_range] at e
      have hv2 : v < 201 := by omega
      cases ha : inB ps v <;> cases hb : inB qs v <;> simp_all
    · rw [h1 v (by omega), h2 v (by omega)]
  · intro h
    have : inB ps = inB qs := funext h
    rw [this]
theorem same_v (w : World) (g1 g2 n1 n2 : Nat) (S1 S2 : Nat → Bool) (h1 : SetAt w g1 n1 S1) (h2 : SetAt w g2 n2 S2) {b : Bool} (hb : b = true ↔ ∀ v, S1 v = S2 v) : Calls Tryd.prog 18 #[.map (some g1), .map (some g2)] w (Saw w (.bool b)) :=
  (same_any w g1 g2 n1 n2 S1 S2 h1 h2).mono fun e w' ⟨b', he, hi, hbl⟩ => by
    have : b' = b := by
      cases b <;> cases b' <;> simp_all
    subst this
    exact ⟨he, hbl⟩
end Go.Proofs.YtiffjbpejlnndaaDoor
