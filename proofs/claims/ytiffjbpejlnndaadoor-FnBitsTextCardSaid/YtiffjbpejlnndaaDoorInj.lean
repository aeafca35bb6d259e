/-
  A bit set's text tells its numbers (plain): from equal texts equal lists. Conditions: none.
-/
import Derived.Test.YtiffjbpejlnndaaDoorBit7
namespace Go.Proofs.YtiffjbpejlnndaaDoor

/-- The number that digits tell. -/
def valD (l : List UInt8) : Nat := l.foldl (fun a d => a * 10 + (d.toNat - 48)) 0
theorem valD_snoc (l : List UInt8) (d : UInt8) : valD (l ++ [d]) = valD l * 10 + (d.toNat - 48) := by simp [valD, List.foldl_append]
theorem digit_nat (k : Nat) (h : k < 10) : (UInt8.ofNat (48 + k)).toNat = 48 + k := by
  rw [UInt8.toNat_ofNat']
  omega
theorem valD_dec (u : Nat) : valD (Lib.decDigits u) = u := by
  induction u using Nat.strongRecOn with
  | ind u ih =>
    unfold Lib.decDigits
    split
    · next h =>
      show 0 * 10 + ((UInt8.ofNat (48 + u)).toNat - 48) = u
      rw [digit_nat u h]
      omega
    · next h =>
      rw [valD_snoc, ih (u / 10) (by omega), digit_nat (u % 10) (Nat.mod_lt _ (by omega))]
      omega
theorem dec_digits (u : Nat) : ∀ d ∈ Lib.decDigits u, d ≠ 44 := by
  induction u using Nat.strongRecOn with
  | ind u ih =>
    unfold Lib.decDigits
    split
    · next h =>
      intro d hd
      have : d = UInt8.ofNat (48 + u) := by simpa using hd
      subst this
      intro e
      have := congrArg UInt8.toNat e
      rw [digit_nat u h] at this
      have : (44 : UInt8).toNat = 44 := rfl
      omega
    · next h =>
      intro d hd
      rcases List.mem_append.1 hd with hd | hd
      · exact ih (u / 10) (by omega) d hd
      · have : d = UInt8.ofNat (48 + u % 10) := by simpa using hd
        subst this
        intro e
        have h1 := congrArg UInt8.toNat e
        rw [digit_nat (u % 10) (Nat.mod_lt _ (by omega))] at h1
        have : (44 : UInt8).toNat = 44 := rfl
        omega
theorem dec_ne (u : Nat) : Lib.decDigits u ≠ [] := by
  unfold Lib.decDigits
  split
  · simp
  · simp
def digs0 (v : Nat) : List UInt8 := (numText v).data.toList
theorem digs0_eq (v : Nat) : digs0 v = Lib.decDigits v := by
  show (Lib.itoa (v : Int)).toArray.toList = _
  unfold Lib.itoa
  rw [if_neg (by omega)]
  rfl
theorem take_to (x t : List UInt8) (hx : ∀ d ∈ x, d ≠ 44) (ht : t = [] ∨ ∃ r, t = 44 :: r) : (x ++ t).takeWhile (· != 44) = x := by
  induction x with
  | nil =>
    rcases ht with rfl | ⟨r, rfl⟩
    · rfl
    · rfl
  | cons a x ih =>
    have ha := hx a List.mem_cons_self
    have := ih fun d hd => hx d (List.mem_cons_of_mem _ hd)
    rw [List.cons_append, List.takeWhile_cons_of_pos (by rw [bne_iff_ne]; exact ha), this]
theorem tail_form (r : List (List UInt8)) : Lib.joinTail [44, 32] r = [] ∨ ∃ t, Lib.joinTail [44, 32] r = 44 :: t := by
  cases r with
  | nil => exact .inl rfl
  | cons x r => exact .inr ⟨_, rfl⟩
theorem tail_inj : ∀ l m : List Nat, Lib.joinTail [44, 32] (l.map digs0) = Lib.joinTail [44, 32] (m.map digs0) → l = m
  | [], [], _ => rfl
  | [], b :: m, h => by
    have : (44 : UInt8) :: _ = [] := h.symm
    cases this
  | a :: l, [], h => by
    have : (44 : UInt8) :: _ = [] := h
    cases this
  | a :: l, b :: m, h => by
    have h1 : [44, 32] ++ digs0 a ++ Lib.joinTail [44, 32] (l.map digs0) = [44, 32] ++ digs0 b ++ Lib.joinTail [44, 32] (m.map digs0) := h
    rw [List.append_assoc, List.append_assoc] at h1
    have h2 := List.append_cancel_left h1
    have t1 := take_to (digs0 a) _ (by rw [digs0_eq]; exact dec_digits a) (tail_form (l.map digs0))
    have t2 := take_to (digs0 b) _ (by rw [digs0_eq]; exact dec_digits b) (tail_form (m.map digs0))
    rw [h2, t2] at t1
    have hab : a = b := by
      have := congrArg valD t1
      rw [digs0_eq, digs0_eq, valD_dec, valD_dec] at this
      exact this.symm
    subst hab
    rw [tail_inj l m (List.append_cancel_left h2)]
theorem join_inj (l m : List Nat) (h : Lib.join (l.map digs0) [44, 32] = Lib.join (m.map digs0) [44, 32]) : l = m := by
  cases l with
  | nil =>
    cases m with
    | nil => rfl
    | cons b m =>
      rw [List.map_nil, Lib.join_nil, List.map_cons, Lib.join_cons] at h
      have := (List.append_eq_nil_iff.1 h.symm).1
      rw [digs0_eq] at this
      exact absurd this (dec_ne b)
  | cons a l =>
    cases m with
    | nil =>
      rw [List.map_nil, Lib.join_nil, List.map_cons, Lib.join_cons] at h
      have := (List.append_eq_nil_iff.1 h).1
      rw [digs0_eq] at this
      exact absurd this (dec_ne a)
    | cons b m =>
      apply tail_inj
      rw [List.map_cons, Lib.join_cons, List.map_cons, Lib.join_cons] at h
      show [44, 32] ++ digs0 a ++ Lib.joinTail [44, 32] (l.map digs0) = [44, 32] ++ digs0 b ++ Lib.joinTail [44, 32] (m.map digs0)
      rw [List.append_assoc, List.append_assoc, h]
theorem textB_inj (l m : List Nat) (h : textB l = textB m) : l = m := by
  apply join_inj
  have h1 := congrArg (fun b : ByteArray => b.data.toList) h
  simp only [textB, ByteArray.data_append, Array.toList_append] at h1
  have h2 := List.append_cancel_right h1
  exact List.append_cancel_left h2
end Go.Proofs.YtiffjbpejlnndaaDoor
