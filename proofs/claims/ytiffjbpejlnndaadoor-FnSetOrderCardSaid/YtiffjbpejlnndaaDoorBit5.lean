/-
  A bit set is read: contains, length. Conditions: as in Bit2.
-/
import Derived.Test.YtiffjbpejlnndaaDoorBit4
namespace Go.Proofs.YtiffjbpejlnndaaDoor
open Go.RowKit

theorem new_any (w : World) : Calls Tryd.prog 74 #[] w fun e w' => e = .returned (.pointer (some ⟨w.heap.size, 0, none⟩)) ∧ Below w.heap.size w w' ∧ BS w' w.heap.size w.heap.size [] := by
  go_enter Tryd.func74, Tryd.ntmps74
  go_wp2
  go_ret
  exact ⟨rfl, (Below.refl _ _).alloc (Nat.le_refl _) _, Nat.le_refl _, (by intro x hx; cases hx), none, Blk.new _ _ _, fun h => absurd h (by decide)⟩

theorem and_pow_f {x k : Nat} (h : x.testBit k = false) : x &&& 2 ^ k = 0 := by
  apply Nat.eq_of_testBit_eq
  intro i
  rw [Nat.testBit_and, Nat.testBit_two_pow, Nat.zero_testBit]
  by_cases e : k = i
  · subst e; simp [h]
  · simp [e]
theorem and_pow_t {x k : Nat} (h : x.testBit k = true) : x &&& 2 ^ k = 2 ^ k := by
  apply Nat.eq_of_testBit_eq
  intro i
  rw [Nat.testBit_and, Nat.testBit_two_pow]
  by_cases e : k = i
  · subst e; simp [h]
  · simp [e]
def Saw (w : World) (v : Value) (e : Ending) (w' : World) : Prop := e = .returned v ∧ Below w.heap.size w w'
theorem contains_in (w : World) (b d : Nat) (n v i m x : Nat) (c0 : w.cell? ⟨b, 0, none⟩ = some (.slice (some ⟨d, 0, none⟩) n n)) (_hn : n ≤ 1000) (hv : v ≤ 1000) (hi : v / 64 = i) (hm : 2 ^ (v % 64) = m) (hlt : i < n)
    (c1 : w.cell? ⟨d, i, none⟩ = some (.int .u64 (x : Int))) (hxb : x < 18446744073709551616) :
    Calls Tryd.prog 80 #[.pointer (some ⟨b, 0, none⟩), .int .i64 v] w (Saw w (.bool (x.testBit (v % 64)))) := by
  have hmb := two_pow_lt (Nat.mod_lt v (show 0 < 64 by omega))
  have hmp : 0 < m := by rw [← hm]; exact Nat.pow_pos (by omega)
  obtain ⟨y, hy⟩ : ∃ y, x &&& m = y := ⟨_, rfl⟩
  rw [hm] at hmb
  have hor : bits BinOp.and IntKind.u64 (x : Int) (m : Int) = (y : Int) := by rw [u64_and_nat x m hxb hmb, hy]
  have hz : x.testBit (v % 64) = (y != 0) := by
    rw [← hy, ← hm]
    cases ht : x.testBit (v % 64)
    · rw [and_pow_f ht]; rfl
    · rw [and_pow_t ht, hm]
      symm
      rw [bne_iff_ne]
      omega
  rw [hz]
  have Hi := Lib.hid hi
  have Hm := Lib.hid hm
  have Hy := Lib.hid hy
  clear hi hm hy hz
  go_enter Tryd.func80, Tryd.ntmps80
  go_upto_region 4 with (go_at_call 96; go_fit (indexFor _ v i hv Hi.out); rintro e w' ⟨rfl, rfl⟩)
  go_quiet (first | (go_at_call 98; exact Calls.quiet_of_same ((maskFor _ v m hv Hm.out).mono fun _ _ h => ⟨h.1, h.2.symm⟩)))
  go_wp2
  go_ret
  have hyy : ((y : Int) != 0) = (y != 0) := by
    rw [Bool.eq_iff_iff, bne_iff_ne, bne_iff_ne]
    omega
  refine ⟨?_, below_drewN (Below.refl _ _) _⟩
  rw [← hyy]
  rfl
theorem contains_out (w : World) (b : Nat) (A : Option Addr) (n v i : Nat) (c0 : w.cell? ⟨b, 0, none⟩ = some (.slice A n n)) (hv : v ≤ 1000) (hi : v / 64 = i) (hge : n ≤ i) :
    Calls Tryd.prog 80 #[.pointer (some ⟨b, 0, none⟩), .int .i64 v] w (Saw w (.bool false)) := by
  have Hi := Lib.hid hi
  clear hi
  go_enter Tryd.func80, Tryd.ntmps80
  go_wp2_with (go_at_call 96; go_fit (indexFor _ v i hv Hi.out); rintro e w' ⟨rfl, rfl⟩)
  all_goals go_ret
  all_goals exact ⟨rfl, Below.refl _ _⟩
theorem contains_v (w : World) (U b : Nat) (ws : List Nat) (v : Nat) (h : BV w U b ws) (hn : ws.length ≤ 1000) (hv : v ≤ 1000) :
    Calls Tryd.prog 80 #[.pointer (some ⟨b, 0, none⟩), .int .i64 v] w (Saw w (.bool (inB ws v))) := by
  obtain ⟨A, c0, h1⟩ := h.row
  by_cases hlt : v / 64 < ws.length
  · obtain ⟨d, rfl, x, hx, hxb, c1⟩ := h1 _ hlt
    unfold inB
    rw [hx]
    exact contains_in w b d _ v _ _ x c0 hn hv rfl rfl hlt c1 hxb
  · have e : inB ws v = false := by
      have : ws.getD (v / 64) 0 = 0 := by rw [List.getD_eq_getElem?_getD, List.getElem?_eq_none (by omega)]; rfl
      unfold inB
      rw [this, Nat.zero_testBit]
    rw [e]
    exact contains_out w b A _ v _ c0 hv rfl (by omega)

theorem pop_le : ∀ n x : Nat, pop n x ≤ n
  | 0, _ => Nat.le_refl _
  | n + 1, x => by
    have := pop_le n (x / 2)
    unfold pop
    omega
/-- The number of numbers. -/
def sumB (ws : List Nat) : Nat := (ws.map (pop 64)).sum
theorem sumB_take (ws : List Nat) (k : Nat) (hk : k < ws.length) : sumB (ws.take (k + 1)) = sumB (ws.take k) + pop 64 (ws.getD k 0) := by
  unfold sumB
  rw [List.take_add_one, List.getD_eq_getElem?_getD, List.getElem?_eq_getElem hk, List.map_append, List.sum_append]
  simp
theorem sumB_le (ws : List Nat) (k : Nat) : sumB (ws.take k) ≤ 64 * k := by
  induction k with
  | zero => simp [sumB]
  | succ k ih =>
    by_cases hk : k < ws.length
    · have := sumB_take ws k hk
      have h2 := pop_le 64 (ws.getD k 0)
      omega
    · have : ws.take (k + 1) = ws.take k := by rw [List.take_of_length_le (by omega), List.take_of_length_le (by omega)]
      rw [this]
      omega
theorem length_v (w : World) (U b : Nat) (ws : List Nat) (h : BV w U b ws) (hn : ws.length ≤ 1000) :
    Calls Tryd.prog 77 #[.pointer (some ⟨b, 0, none⟩)] w fun e w' => e = .returned (.int .i64 (sumB ws : Nat)) ∧ w = w' := by
  obtain ⟨A, c0, h1⟩ := h.row
  have H1 := Lib.hid h1
  have Hs := Lib.hid (show sumB ws = sumB (ws.take ws.length) by rw [List.take_length])
  obtain ⟨n, hnn⟩ : ∃ n, ws.length = n := ⟨_, rfl⟩
  rw [hnn] at c0 hn
  have Hnn := Lib.hid hnn
  clear h1 h hnn
  go_enter Tryd.func77, Tryd.ntmps77
  go_wp2
  go_loopw [3, 11] (fun s3 s11 wr => ∃ k : Nat, k ≤ n ∧ s11 = .int .i64 (k : Int) ∧ s3 = .int .i64 (sumB (ws.take k) : Nat) ∧ wr = w) (fun _ s11 _ => n - (intOf s11).toNat)
  case atStart => exact ⟨0, Nat.zero_le _, rfl, rfl, rfl⟩
  case round =>
    obtain ⟨k, hk, rfl, rfl, rfl⟩ := hrel
    have hle := sumB_le ws k
    obtain ⟨sk, hsk⟩ : ∃ sk, sumB (ws.take k) = sk := ⟨_, rfl⟩
    by_cases hlt : k < n
    · obtain ⟨d, rfl, x, hx, hxb, c1⟩ := H1.out k (by rw [Hnn.out]; exact hlt)
      have Hst := Lib.hid (sumB_take ws k (by rw [Hnn.out]; exact hlt))
      rw [hx] at Hst
      have Hsk := Lib.hid hsk
      rw [hsk] at hle ⊢
      clear hx hsk
      have hpl := pop_le 64 x
      go_wp2_with (go_at_call 100; go_fit (onesCount_any _ x hxb); rintro e w' ⟨rfl, rfl⟩)
      go_roundw
      case rel => exact ⟨k + 1, by omega, rfl, by rw [Hst.out, Hsk.out]; exact congrArg (Value.int .i64) (by omega), trivial⟩
      case measure =>
        simp [intOf]
        omega
    · have hkn : k = n := by omega
      subst hkn
      have Hsk := Lib.hid hsk
      rw [hsk] at hle ⊢
      clear hsk
      go_wp2
      go_ret
      exact ⟨retI (by rw [Hs.out, Hnn.out, Hsk.out]), rfl⟩
end Go.Proofs.YtiffjbpejlnndaaDoor
