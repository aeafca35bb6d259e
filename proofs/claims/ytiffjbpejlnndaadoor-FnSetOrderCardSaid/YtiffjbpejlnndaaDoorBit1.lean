/-
  The small functions of a bit set. Conditions: numbers are not negative and small.
-/
import Derived.Test.YtiffjbpejlnndaaDoorRows
import Derived.Test.YtiffjbpejlnndaaDoorMem
import Derived.Test.YtiffjbpejlnndaaDoorBit0
import Derived.Test.YtiffjbpejlnndaaDoorPop
import Derived.WalkKit
import Derived.WalkSpells
import Derived.WalkLawsBesides
import Derived.Deep.QuietTactic
import Derived.BigQuiet
import Derived.Lib.Hide
namespace Go.Proofs.YtiffjbpejlnndaaDoor
open Go.RowKit

theorem retI {k : IntKind} {a b : Int} (h : a = b) : Ending.returned (.int k a) = .returned (.int k b) := by rw [h]

theorem u64_w (a : Nat) (h : a < 18446744073709551616) : IntKind.u64.wrap (a : Int) = (a : Int) := by
  rw [IntKind.wrap_u64]
  omega
theorem indexFor (w : World) (v i : Nat) (hv : v ≤ 1000) (hi : v / 64 = i) :
    Calls Tryd.prog 96 #[.int .i64 v] w fun e w' => e = .returned (.int .i64 i) ∧ w = w' := by
  go_enter Tryd.func96, Tryd.ntmps96
  go_wp2
  go_ret
  exact ⟨retI (by omega), rfl⟩
theorem wordsNeeded (w : World) (v i : Nat) (hv : v ≤ 1000) (hi : v / 64 = i) :
    Calls Tryd.prog 97 #[.int .i64 v] w fun e w' => e = .returned (.int .i64 (i + 1)) ∧ w = w' := by
  have hiv : i ≤ 1000 := by omega
  go_enter Tryd.func97, Tryd.ntmps97
  go_wp2_with (go_at_call 96; refine (indexFor _ v i hv hi).mono ?_; rintro e w' ⟨rfl, rfl⟩)
  go_ret
  exact ⟨rfl, rfl⟩
theorem maskFor (w : World) (v m : Nat) (hv : v ≤ 1000) (hm : 2 ^ (v % 64) = m) :
    Calls Tryd.prog 98 #[.int .i64 v] w fun e w' => e = .returned (.int .u64 m) ∧ w = w' := by
  have HM := Lib.hid hm
  clear hm
  go_enter Tryd.func98, Tryd.ntmps98
  go_wp2
  go_ret
  refine ⟨retI ?_, rfl⟩
  have h2 := two_pow_lt (Nat.mod_lt v (show 0 < 64 by omega))
  rw [← HM.out]
  show IntKind.u64.wrap (2 ^ (v % 64)) = ((2 ^ (v % 64) : Nat) : Int)
  rw [show (2 : Int) ^ (v % 64) = ((2 ^ (v % 64) : Nat) : Int) from (Int.natCast_pow 2 (v % 64)).symm]
  exact u64_w _ h2
theorem intMax_any (w : World) (a b : Int) :
    Calls Tryd.prog 105 #[.int .i64 a, .int .i64 b] w fun e w' => e = .returned (.int .i64 (max a b)) ∧ w = w' := by
  by_cases h : a > b
  all_goals
    go_enter Tryd.func105, Tryd.ntmps105
    go_wp2
    go_ret
    exact ⟨retI (by omega), rfl⟩
theorem st_and (x d m y : Nat) (hx : x < 18446744073709551616) (hm : m < 18446744073709551616) (h : (x / d &&& m) + (x &&& m) = y) (hy : y < 18446744073709551616) :
    IntKind.u64.wrap (bits BinOp.and IntKind.u64 ((x : Int) / (d : Int)) (m : Int) + bits BinOp.and IntKind.u64 (x : Int) (m : Int)) = (y : Int) := by
  rw [← Int.natCast_ediv, u64_and_nat (x / d) m (Nat.lt_of_le_of_lt (Nat.div_le_self _ _) hx) hm, u64_and_nat x m hx hm, ← Int.natCast_add, h]
  exact u64_w y hy
theorem st_and3 (x m y : Nat) (hx : x < 1152921504606846976 * 5) (hm : m < 18446744073709551616) (h : (x / 16 + x) &&& m = y) :
    ∃ t : Nat, IntKind.u64.wrap ((x : Int) / 16 + (x : Int)) = (t : Int) ∧ bits BinOp.and IntKind.u64 (t : Int) (m : Int) = (y : Int) := by
  refine ⟨x / 16 + x, ?_, ?_⟩
  · rw [IntKind.wrap_u64]
    omega
  · rw [u64_and_nat _ m (by omega) hm, h]
theorem st_add (x d y : Nat) (h : x + x / d = y) (hy : y < 18446744073709551616) : IntKind.u64.wrap ((x : Int) + (x : Int) / (d : Int)) = (y : Int) := by
  rw [← Int.natCast_ediv, ← Int.natCast_add, h]
  exact u64_w y hy
theorem st_last (y : Nat) (hy : y < 1152921504606846976) : bits BinOp.and IntKind.i64 (y : Int) 127 = ((y % 128 : Nat) : Int) := by
  have e1 : (BitVec.ofInt 64 (y : Int)).toNat = y := ofInt_u64 y (by omega)
  have e2 : (BitVec.ofInt 64 (127 : Int)).toNat = 127 := ofInt_u64 127 (by omega)
  show IntKind.i64.wrap ((BitVec.ofInt 64 (y : Int) &&& BitVec.ofInt 64 (127 : Int)).toNat : Int) = _
  rw [BitVec.toNat_and, e1, e2, Nat.and_two_pow_sub_one_eq_mod y 7, IntKind.wrap_i64]
  omega
theorem onesCount_any (w : World) (x : Nat) (hx : x < 18446744073709551616) :
    Calls Tryd.prog 100 #[.int .u64 x] w fun e w' => e = .returned (.int .i64 (pop 64 x)) ∧ w = w' := by
  obtain ⟨y1, y2, y3, h1, b1, h2, b2, h3, b3, c4, c5, c6, hp⟩ := steps_pop x hx
  have e1 : IntKind.u64.wrap (bits BinOp.and IntKind.u64 ((x : Int) / 2) 6148914691236517205 + bits BinOp.and IntKind.u64 (x : Int) 6148914691236517205) = (y1 : Int) := st_and x 2 6148914691236517205 y1 hx (by omega) h1 b1
  have e2 : IntKind.u64.wrap (bits BinOp.and IntKind.u64 ((y1 : Int) / 4) 3689348814741910323 + bits BinOp.and IntKind.u64 (y1 : Int) 3689348814741910323) = (y2 : Int) := st_and y1 4 3689348814741910323 y2 b1 (by omega) h2 (by omega)
  have e3 := st_and3 y2 1085102592571150095 y3 b2 (by omega) h3
  obtain ⟨t3, ht3, e3'⟩ := e3
  have e3 : bits BinOp.and IntKind.u64 (t3 : Int) 1085102592571150095 = (y3 : Int) := e3'
  clear e3'
  obtain ⟨y4, hy4⟩ : ∃ y4, y3 + y3 / 256 = y4 := ⟨_, rfl⟩
  rw [hy4] at c4 c5 c6 hp
  obtain ⟨y5, hy5⟩ : ∃ y5, y4 + y4 / 65536 = y5 := ⟨_, rfl⟩
  rw [hy5] at c5 c6 hp
  obtain ⟨y6, hy6⟩ : ∃ y6, y5 + y5 / 4294967296 = y6 := ⟨_, rfl⟩
  rw [hy6] at c6 hp
  have e4 : IntKind.u64.wrap ((y3 : Int) + (y3 : Int) / 256) = (y4 : Int) := st_add y3 256 y4 hy4 (by omega)
  have e5 : IntKind.u64.wrap ((y4 : Int) + (y4 : Int) / 65536) = (y5 : Int) := st_add y4 65536 y5 hy5 (by omega)
  have e6 : IntKind.u64.wrap ((y5 : Int) + (y5 : Int) / 4294967296) = (y6 : Int) := st_add y5 4294967296 y6 hy6 (by omega)
  have e7 := st_last y6 c6
  rw [hp] at e7
  clear h1 b1 h2 b2 h3 b3 c4 c5 hp hy4 hy5 hy6
  go_enter Tryd.func100, Tryd.ntmps100
  go_wp2
  go_ret
  exact ⟨rfl, rfl⟩
end Go.Proofs.YtiffjbpejlnndaaDoor
