/-
  laws.FnBitsOr answers true, where a condition of the law is not met. Conditions: the library's two tables as they are laid; at most 2^31 numbers.
-/
import Derived.Test.YtiffjbpejlnndaaDoorOr1
namespace Go.Proofs.YtiffjbpejlnndaaDoor
open Go.RowKit Go.Maps

def OfAny (w : World) (b : Bool) (e : Ending) (w' : World) : Prop := ∃ v, e = .returned (.tuple #[v, .bool b]) ∧ Below w.heap.size w w'
theorem bitsOf_either (w : World) (U : Nat) (A1 A2 : Option Addr) (c1 c2 : Nat) (l less : List Int) (h1 : IntsAt w U A1 l) (h2 : IntsAt w U A2 less) (hU : U ≤ w.heap.size) (m1 : l.length ≤ 2147483647) (m2 : less.length ≤ 2147483647) {b : Bool} (hb : (okB 200 l && okB 200 less) = b) :
    Calls Tryd.prog 13 #[.slice A1 l.length c1, .slice A2 less.length c2] w (OfAny w b) := by
  cases b
  · exact (bitsOf_no w U A1 A2 c1 c2 l less h1 h2 hU m1 m2 hb).mono fun e w' ⟨hb, h⟩ => ⟨_, h, hb⟩
  · exact (bitsOf_yes w U A1 A2 c1 c2 l less h1 h2 hU m1 m2 hb).mono fun e w' ⟨hb, g, n, h, _⟩ => ⟨_, h, hb⟩
def SawV (w : World) (b : Bool) (e : Ending) (w' : World) : Prop := e = .returned (.bool b) ∧ w' = w
theorem bitAsk_v (w : World) (U : Nat) (A : Option Addr) (c : Nat) (l : List Int) (h : IntsAt w U A l) (m1 : l.length ≤ 2147483647) {b : Bool} (hb : (okB 300 l && decide (l.length ≤ 100)) = b) : Calls Tryd.prog 14 #[.slice A l.length c] w (SawV w b) :=
  (bitAsk_any w U A c l h m1).mono fun e w' h => ⟨h.1.trans (by rw [hb]), h.2⟩

set_option maxRecDepth 100000 in
set_option maxHeartbeats 2000000 in
theorem or_no (w : World) (U : Nat) (A1 A2 A3 A4 A5 : Option Addr) (c1 c2 c3 c4 c5 : Nat) (l1 l2 l3 l4 l5 : List Int) (ha : OrArgs w U A1 A2 A3 A4 A5 l1 l2 l3 l4 l5) (hT : Tabs w)
    (m1 : l1.length ≤ 2147483647) (m2 : l2.length ≤ 2147483647) (m3 : l3.length ≤ 2147483647) (m4 : l4.length ≤ 2147483647) (m5 : l5.length ≤ 2147483647)
    (hno : ((okB 200 l1 && okB 200 l2) = false) ∨ ((okB 200 l3 && okB 200 l4) = false) ∨ 100 < l1.length + l3.length ∨ 100 < l2.length + l4.length ∨ (okB 300 l5 && decide (l5.length ≤ 100)) = false) :
    Calls Tryd.prog 5 #[.slice A1 l1.length c1, .slice A2 l2.length c2, .slice A3 l3.length c3, .slice A4 l4.length c4, .slice A5 l5.length c5] w (Saw w (.bool true)) := by
  obtain ⟨b1, hb1⟩ : ∃ b, (okB 200 l1 && okB 200 l2) = b := ⟨_, rfl⟩
  obtain ⟨b2, hb2⟩ : ∃ b, (okB 200 l3 && okB 200 l4) = b := ⟨_, rfl⟩
  obtain ⟨b5, hb5⟩ : ∃ b, (okB 300 l5 && decide (l5.length ≤ 100)) = b := ⟨_, rfl⟩
  rw [hb1, hb2, hb5] at hno
  have HA := Lib.hid ha
  have HT := Lib.hid hT
  have Q1 := Lib.hid hb1
  have Q2 := Lib.hid hb2
  have Q5 := Lib.hid hb5
  have M1 := Lib.hid m1
  have M2 := Lib.hid m2
  have M3 := Lib.hid m3
  have M4 := Lib.hid m4
  have M5 := Lib.hid m5
  obtain ⟨n1, e1⟩ : ∃ n, l1.length = n := ⟨_, rfl⟩
  obtain ⟨n2, e2⟩ : ∃ n, l2.length = n := ⟨_, rfl⟩
  obtain ⟨n3, e3⟩ : ∃ n, l3.length = n := ⟨_, rfl⟩
  obtain ⟨n4, e4⟩ : ∃ n, l4.length = n := ⟨_, rfl⟩
  obtain ⟨n5, e5⟩ : ∃ n, l5.length = n := ⟨_, rfl⟩
  have C1 : Hid (∀ W, Below w.heap.size w W → Calls Tryd.prog 13 #[.slice A1 n1 c1, .slice A2 n2 c2] W (OfAny W b1)) := fun W h => by
    rw [← e1, ← e2]
    exact bitsOf_either W U A1 A2 c1 c2 l1 l2 (HA.out.h1.below h HA.out.hU) (HA.out.h2.below h HA.out.hU) (Nat.le_trans HA.out.hU h.size) M1.out M2.out Q1.out
  have C2 : Hid (∀ W, Below w.heap.size w W → Calls Tryd.prog 13 #[.slice A3 n3 c3, .slice A4 n4 c4] W (OfAny W b2)) := fun W h => by
    rw [← e3, ← e4]
    exact bitsOf_either W U A3 A4 c3 c4 l3 l4 (HA.out.h3.below h HA.out.hU) (HA.out.h4.below h HA.out.hU) (Nat.le_trans HA.out.hU h.size) M3.out M4.out Q2.out
  have C5 : Hid (∀ W, Below w.heap.size w W → Calls Tryd.prog 14 #[.slice A5 n5 c5] W (SawV W b5)) := fun W h => by
    rw [← e5]
    exact bitAsk_v W U A5 c5 l5 (HA.out.h5.below h HA.out.hU) M5.out Q5.out
  rw [e1] at m1 hno ⊢
  rw [e2] at m2 hno ⊢
  rw [e3] at m3 hno ⊢
  rw [e4] at m4 hno ⊢
  rw [e5] at m5 ⊢
  clear ha hT hb1 hb2 hb5 e1 e2 e3 e4 e5 Q1 Q2 Q5 M1 M2 M3 M4 M5
  go_enter Tryd.func5, Tryd.ntmps5
  go_upto_region 5 with (first
    | (go_at_call 13; go_fit (C1.out _ (Below.refl _ _)); rintro e w1 ⟨v1, rfl, hb⟩; have HB1 := Lib.hid hb; clear hb)
    | (go_at_call 13; go_fit (C2.out _ HB1.out); rintro e w2 ⟨v2, rfl, hb⟩; have HB2 := Lib.hid (below_tr HB1.out (Nat.le_refl _) hb); clear hb))
  cases b1
  · clear hno
    go_wp2_with (first
      | (go_at_call 14; go_fit (C5.out _ HB2.out); rintro e w3 ⟨rfl, rfl⟩)
      | (go_at_call 15; go_fit (bitAwake_yes _ (HT.out.below HB2.out)); rintro e w4 ⟨rfl, hb⟩; have HB3 := Lib.hid (below_tr HB2.out (Nat.le_refl _) hb); clear hb))
    go_ret
    exact ⟨rfl, HB3.out⟩
  · cases b2
    · clear hno
      go_wp2_with (first
        | (go_at_call 14; go_fit (C5.out _ HB2.out); rintro e w3 ⟨rfl, rfl⟩)
        | (go_at_call 15; go_fit (bitAwake_yes _ (HT.out.below HB2.out)); rintro e w4 ⟨rfl, hb⟩; have HB3 := Lib.hid (below_tr HB2.out (Nat.le_refl _) hb); clear hb))
      go_ret
      exact ⟨rfl, HB3.out⟩
    · by_cases x1 : 100 < n1 + n3
      · clear hno
        go_wp2_with (first
          | (go_at_call 14; go_fit (C5.out _ HB2.out); rintro e w3 ⟨rfl, rfl⟩)
          | (go_at_call 15; go_fit (bitAwake_yes _ (HT.out.below HB2.out)); rintro e w4 ⟨rfl, hb⟩; have HB3 := Lib.hid (below_tr HB2.out (Nat.le_refl _) hb); clear hb))
        go_ret
        exact ⟨rfl, HB3.out⟩
      · by_cases x2 : 100 < n2 + n4
        · clear hno
          go_wp2_with (first
            | (go_at_call 14; go_fit (C5.out _ HB2.out); rintro e w3 ⟨rfl, rfl⟩)
            | (go_at_call 15; go_fit (bitAwake_yes _ (HT.out.below HB2.out)); rintro e w4 ⟨rfl, hb⟩; have HB3 := Lib.hid (below_tr HB2.out (Nat.le_refl _) hb); clear hb))
          go_ret
          exact ⟨rfl, HB3.out⟩
        · have hb5 : b5 = false := by
            rcases hno with h | h | h | h | h
            · cases h
            · cases h
            · exact absurd h x1
            · exact absurd h x2
            · exact h
          subst hb5
          clear hno
          go_wp2_with (first
            | (go_at_call 14; go_fit (C5.out _ HB2.out); rintro e w3 ⟨rfl, rfl⟩)
            | (go_at_call 15; go_fit (bitAwake_yes _ (HT.out.below HB2.out)); rintro e w4 ⟨rfl, hb⟩; have HB3 := Lib.hid (below_tr HB2.out (Nat.le_refl _) hb); clear hb))
          go_ret
          exact ⟨rfl, HB3.out⟩
end Go.Proofs.YtiffjbpejlnndaaDoor
