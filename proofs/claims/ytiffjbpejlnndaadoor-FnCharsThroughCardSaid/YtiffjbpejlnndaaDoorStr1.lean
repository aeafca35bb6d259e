/-
  The small methods of a character stream: what each call does to the stream's cells. Conditions: none beyond each theorem's own.
-/
import Derived.Test.YtiffjbpejlnndaaDoorRows
import Derived.Test.YtiffjbpejlnndaaDoorMem
import Derived.WalkKit
import Derived.WalkSpells
import Derived.WalkLawsBesides
import Derived.Deep.QuietTactic
import Derived.BigQuiet
import Derived.Lib.Hide
namespace Go.Proofs.YtiffjbpejlnndaaDoor
open Go.RowKit

theorem index_any (w : World) (s : Nat) (i : Int) (c1 : w.cell? ⟨s, 1, none⟩ = some (.int .i64 i)) :
    Calls Tryd.prog 68 #[.pointer (some ⟨s, 0, none⟩)] w fun e w' => e = .returned (.int .i64 i) ∧ w = w' := by
  go_enter Tryd.func68, Tryd.ntmps68
  go_wp2
  go_ret
  exact ⟨rfl, rfl⟩
theorem size_any (w : World) (s : Nat) (i : Int) (c3 : w.cell? ⟨s, 3, none⟩ = some (.int .i64 i)) :
    Calls Tryd.prog 69 #[.pointer (some ⟨s, 0, none⟩)] w fun e w' => e = .returned (.int .i64 i) ∧ w = w' := by
  go_enter Tryd.func69, Tryd.ntmps69
  go_wp2
  go_ret
  exact ⟨rfl, rfl⟩
theorem mark_any (w : World) (s : Nat) :
    Calls Tryd.prog 67 #[.pointer (some ⟨s, 0, none⟩)] w fun e w' => e = .returned (.int .i64 (-1)) ∧ w = w' := by
  go_enter Tryd.func67, Tryd.ntmps67
  go_wp2
  go_ret
  exact ⟨rfl, rfl⟩
theorem release_any (w : World) (s : Nat) (m : Int) :
    Calls Tryd.prog 66 #[.pointer (some ⟨s, 0, none⟩), .int .i64 m] w fun e w' => e = .returned (.tuple #[]) ∧ w = w' := by
  go_enter Tryd.func66, Tryd.ntmps66
  go_wp2
  go_end0
  exact ⟨rfl, rfl⟩
theorem ret_int {k : IntKind} {a b : Int} (h : a = b) : Ending.returned (.int k a) = .returned (.int k b) := by rw [h]
theorem intMin_any (w : World) (a b : Int) :
    Calls Tryd.prog 95 #[.int .i64 a, .int .i64 b] w fun e w' => e = .returned (.int .i64 (min a b)) ∧ w = w' := by
  by_cases h : a < b
  all_goals
    go_enter Tryd.func95, Tryd.ntmps95
    go_wp2
    go_ret
    exact ⟨ret_int (by omega), rfl⟩
theorem seek_any (w : World) (s : Nat) (i k n : Int) (c1 : w.cell? ⟨s, 1, none⟩ = some (.int .i64 i)) (f1 : w.frozen? ⟨s, 1, none⟩ = false) (c3 : w.cell? ⟨s, 3, none⟩ = some (.int .i64 n))
    (hk : k ≤ n) :
    Calls Tryd.prog 65 #[.pointer (some ⟨s, 0, none⟩), .int .i64 k] w fun e w' => e = .returned (.tuple #[]) ∧ w.setCell ⟨s, 1, none⟩ (.int .i64 k) = w' := by
  by_cases h : k ≤ i
  · go_enter Tryd.func65, Tryd.ntmps65
    go_wp2
    refine bodyPost_ret (results_none rfl _ _ _) rfl ?_
    exact ⟨rfl, rfl⟩
  · go_enter Tryd.func65, Tryd.ntmps65
    go_wp2_with (go_at_call 95; refine (intMin_any _ _ _).mono ?_; rintro e w' ⟨rfl, rfl⟩)
    go_end0
    exact ⟨rfl, by rw [Int.min_eq_left hk]⟩
set_option maxHeartbeats 400000 in
theorem consume_ok (w : World) (s : Nat) (i n : Nat) (c1 : w.cell? ⟨s, 1, none⟩ = some (.int .i64 i)) (f1 : w.frozen? ⟨s, 1, none⟩ = false) (c3 : w.cell? ⟨s, 3, none⟩ = some (.int .i64 n))
    (hi : i < n) (hn : n ≤ 9223372036854775807) :
    Calls Tryd.prog 63 #[.pointer (some ⟨s, 0, none⟩)] w fun e w' => e = .returned (.tuple #[]) ∧ ∃ d, (w.setCell ⟨s, 1, none⟩ (.int .i64 (i + 1))).drewN d = w' := by
  go_enter Tryd.func63, Tryd.ntmps63
  go_wp2
  go_quiet (fail)
  go_wp2
  go_end0
  exact ⟨rfl, _, rfl⟩
set_option maxHeartbeats 400000 in
theorem consume_dies (w : World) (s : Nat) (n : Nat) (c1 : w.cell? ⟨s, 1, none⟩ = some (.int .i64 n)) (c3 : w.cell? ⟨s, 3, none⟩ = some (.int .i64 n)) :
    Calls Tryd.prog 63 #[.pointer (some ⟨s, 0, none⟩)] w fun e w' => (∃ v, e = .panicked [{ v := .iface 9 v, recovered := false }]) ∧ ∃ d, w.drewN d = w' := by
  go_enter Tryd.func63, Tryd.ntmps63
  go_wp2
  go_quiet (fail)
  go_wp2
  exact ⟨rfl, ⟨_, rfl⟩, _, rfl⟩

/-- LA(1) at a place that is there; LA(-1) behind one. -/
theorem la_one (w : World) (s g p c n : Nat) (r : Int) (hpn : p < n) (hn : n ≤ 9223372036854775806)
    (c1 : w.cell? ⟨s, 1, none⟩ = some (.int .i64 p)) (c2 : w.cell? ⟨s, 2, none⟩ = some (.slice (some ⟨g, 0, none⟩) n c)) (c3 : w.cell? ⟨s, 3, none⟩ = some (.int .i64 n))
    (hr : w.cell? ⟨g, p, none⟩ = some (.int .i32 r)) (r0 : 0 ≤ r) (r1 : r ≤ 2147483647) :
    Calls Tryd.prog 64 #[.pointer (some ⟨s, 0, none⟩), .int .i64 1] w fun e w' => e = .returned (.int .i64 r) ∧ w = w' := by
  go_enter Tryd.func64, Tryd.ntmps64
  go_wp2
  go_ret
  exact ⟨rfl, rfl⟩
theorem la_back (w : World) (s g p c n : Nat) (r : Int) (hpn : p < n) (hn : n ≤ 9223372036854775806)
    (c1 : w.cell? ⟨s, 1, none⟩ = some (.int .i64 (p + 1))) (c2 : w.cell? ⟨s, 2, none⟩ = some (.slice (some ⟨g, 0, none⟩) n c)) (c3 : w.cell? ⟨s, 3, none⟩ = some (.int .i64 n))
    (hr : w.cell? ⟨g, p, none⟩ = some (.int .i32 r)) (r0 : 0 ≤ r) (r1 : r ≤ 2147483647) :
    Calls Tryd.prog 64 #[.pointer (some ⟨s, 0, none⟩), .int .i64 (-1)] w fun e w' => e = .returned (.int .i64 r) ∧ w = w' := by
  go_enter Tryd.func64, Tryd.ntmps64
  go_wp2
  go_ret
  exact ⟨rfl, rfl⟩
theorem la_end (w : World) (s n : Nat) (hn : n ≤ 9223372036854775806)
    (c1 : w.cell? ⟨s, 1, none⟩ = some (.int .i64 n)) (c3 : w.cell? ⟨s, 3, none⟩ = some (.int .i64 n)) :
    Calls Tryd.prog 64 #[.pointer (some ⟨s, 0, none⟩), .int .i64 1] w fun e w' => e = .returned (.int .i64 (-1)) ∧ w = w' := by
  go_enter Tryd.func64, Tryd.ntmps64
  go_wp2
  go_ret
  exact ⟨rfl, rfl⟩
end Go.Proofs.YtiffjbpejlnndaaDoor
