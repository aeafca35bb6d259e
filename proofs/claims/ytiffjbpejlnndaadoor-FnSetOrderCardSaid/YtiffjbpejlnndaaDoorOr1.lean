/-
  laws.FnBitsOr answers true, where the arguments are of no use. Conditions: the library's two tables as they are laid.
-/
import Derived.Test.YtiffjbpejlnndaaDoorMap6
namespace Go.Proofs.YtiffjbpejlnndaaDoor
open Go.RowKit Go.Maps

/-- The arguments of FnBitsOr. -/
structure OrArgs (w : World) (U : Nat) (A1 A2 A3 A4 A5 : Option Addr) (l1 l2 l3 l4 l5 : List Int) : Prop where
  h1 : IntsAt w U A1 l1
  h2 : IntsAt w U A2 l2
  h3 : IntsAt w U A3 l3
  h4 : IntsAt w U A4 l4
  h5 : IntsAt w U A5 l5
  hU : U ≤ w.heap.size
def OfYes (w : World) (l less : List Int) (e : Ending) (w' : World) : Prop := Below w.heap.size w w' ∧ ∃ g n, e = .returned (.tuple #[.map (some g), .bool true]) ∧ w.heap.size ≤ g ∧ n ≤ l.length + less.length ∧ SetAt w' g n (inB (setW (nats l) (nats less)))
def OfNo (w : World) (e : Ending) (w' : World) : Prop := Below w.heap.size w w' ∧ e = .returned (.tuple #[.map none, .bool false])
theorem bitsOf_yes (w : World) (U : Nat) (A1 A2 : Option Addr) (c1 c2 : Nat) (l less : List Int) (h1 : IntsAt w U A1 l) (h2 : IntsAt w U A2 less) (hU : U ≤ w.heap.size) (m1 : l.length ≤ 2147483647) (m2 : less.length ≤ 2147483647) (hok : (okB 200 l && okB 200 less) = true) :
    Calls Tryd.prog 13 #[.slice A1 l.length c1, .slice A2 less.length c2] w (OfYes w l less) :=
  (bitsOf_any w U A1 A2 c1 c2 l less h1 h2 hU m1 m2).mono fun e w' ⟨hb, h⟩ => by
    rcases h with ⟨_, _, h⟩ | ⟨h, _⟩
    · exact ⟨hb, h⟩
    · rw [Bool.and_eq_true] at hok
      rcases h with h | h
      · rw [h] at hok; cases hok.1
      · rw [h] at hok; cases hok.2
theorem bitsOf_no (w : World) (U : Nat) (A1 A2 : Option Addr) (c1 c2 : Nat) (l less : List Int) (h1 : IntsAt w U A1 l) (h2 : IntsAt w U A2 less) (hU : U ≤ w.heap.size) (m1 : l.length ≤ 2147483647) (m2 : less.length ≤ 2147483647) (hok : (okB 200 l && okB 200 less) = false) :
    Calls Tryd.prog 13 #[.slice A1 l.length c1, .slice A2 less.length c2] w (OfNo w) :=
  (bitsOf_any w U A1 A2 c1 c2 l less h1 h2 hU m1 m2).mono fun e w' ⟨hb, h⟩ => by
    rcases h with ⟨ha, hb', _⟩ | ⟨_, h⟩
    · rw [ha, hb'] at hok; cases hok
    · exact ⟨hb, h⟩

set_option maxRecDepth 100000 in
set_option maxHeartbeats 1000000 in
theorem or_big (w : World) (A1 A2 A3 A4 A5 : Option Addr) (c1 c2 c3 c4 c5 n1 n2 n3 n4 n5 : Nat) (h : 2147483647 < n1 ∨ 2147483647 < n2 ∨ 2147483647 < n3 ∨ 2147483647 < n4 ∨ 2147483647 < n5) :
    Calls Tryd.prog 5 #[.slice A1 n1 c1, .slice A2 n2 c2, .slice A3 n3 c3, .slice A4 n4 c4, .slice A5 n5 c5] w (Saw w (.bool true)) := by
  by_cases b1 : 2147483647 < n1
  · clear h
    go_enter Tryd.func5, Tryd.ntmps5
    go_wp2
    go_ret
    exact ⟨rfl, Below.refl _ _⟩
  · by_cases b2 : 2147483647 < n2
    · clear h
      go_enter Tryd.func5, Tryd.ntmps5
      go_wp2
      go_ret
      exact ⟨rfl, Below.refl _ _⟩
    · by_cases b3 : 2147483647 < n3
      · clear h
        go_enter Tryd.func5, Tryd.ntmps5
        go_wp2
        go_ret
        exact ⟨rfl, Below.refl _ _⟩
      · by_cases b4 : 2147483647 < n4
        · clear h
          go_enter Tryd.func5, Tryd.ntmps5
          go_wp2
          go_ret
          exact ⟨rfl, Below.refl _ _⟩
        · have b5 : 2147483647 < n5 := by omega
          clear h
          go_enter Tryd.func5, Tryd.ntmps5
          go_wp2
          go_ret
          exact ⟨rfl, Below.refl _ _⟩
end Go.Proofs.YtiffjbpejlnndaaDoor
