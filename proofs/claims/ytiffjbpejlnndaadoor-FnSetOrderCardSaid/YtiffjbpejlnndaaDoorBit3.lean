/-
  A bit set: add whole, clear, remove, minLen. Conditions: as in Bit2.
-/
import Derived.Test.YtiffjbpejlnndaaDoorBit2
namespace Go.Proofs.YtiffjbpejlnndaaDoor
open Go.RowKit

theorem add_any (w : World) (B b : Nat) (ws : List Nat) (v : Nat) (hBw : B ≤ w.heap.size) (h : BS w B b ws) (hv : v ≤ 1000) :
    Calls Tryd.prog 75 #[.pointer (some ⟨b, 0, none⟩), .int .i64 v] w (BPost w B b (addB ws v)) := by
  obtain ⟨hB, hw, A, h0, h1⟩ := h
  by_cases hlt : v / 64 < ws.length
  · obtain ⟨d, rfl, hd, hr⟩ := h1 (by omega)
    have e : addB ws v = ws.set (v / 64) (ws.getD (v / 64) 0 ||| 2 ^ (v % 64)) := by
      have : growB ws (v / 64 + 1) = ws := by simp [growB, show v / 64 + 1 - ws.length = 0 by omega]
      rw [addB, this]
    rw [e]
    exact add_in w B b d ws v _ _ _ hB hd hw h0 hr hv rfl rfl hlt rfl (hw.getD _)
  · have e : addB ws v = (growB ws (v / 64 + 1)).set (v / 64) (0 ||| 2 ^ (v % 64)) := by
      have : ws.getD (v / 64) 0 = 0 := by rw [List.getD_eq_getElem?_getD, List.getElem?_eq_none (by omega)]; rfl
      rw [addB, growB_getD, this]
    rw [e]
    exact add_grow w B b A ws v _ _ hB hBw hw h0 h1 hv rfl rfl (by omega)

theorem clear_out (w : World) (B b : Nat) (A : Option Addr) (ws : List Nat) (v i : Nat) (h : BS w B b ws) (h0 : Blk w b 134 #[.slice A ws.length ws.length]) (hv : v ≤ 1000) (hi : v / 64 = i) (hge : ws.length ≤ i) :
    Calls Tryd.prog 99 #[.pointer (some ⟨b, 0, none⟩), .int .i64 v] w (BPost w B b ws) := by
  have c0 : w.cell? ⟨b, 0, none⟩ = some (.slice A ws.length ws.length) := (h0.cell 0).trans rfl
  have HE := Lib.hid h
  have Hi := Lib.hid hi
  clear h hi h0
  go_enter Tryd.func99, Tryd.ntmps99
  go_wp2_with (go_at_call 96; refine (indexFor _ v i hv Hi.out).mono ?_; rintro e w' ⟨rfl, rfl⟩)
  all_goals go_end0
  all_goals exact ⟨rfl, Below.refl _ _, HE.out, Keep.refl _⟩

theorem u64_not (m : Nat) (h : m < 18446744073709551616) : bits BinOp.xor IntKind.u64 IntKind.u64.max (m : Int) = ((18446744073709551615 - m : Nat) : Int) := by
  have e1 : (BitVec.ofInt 64 (m : Int)).toNat = m := ofInt_u64 m h
  have e2 : BitVec.ofInt 64 IntKind.u64.max = BitVec.allOnes 64 := by decide
  show IntKind.u64.wrap ((BitVec.ofInt 64 IntKind.u64.max ^^^ BitVec.ofInt 64 (m : Int)).toNat : Int) = _
  rw [e2, BitVec.allOnes_xor, BitVec.toNat_not, e1, IntKind.wrap_u64]
  omega
theorem clear_in (w : World) (B b d : Nat) (ws : List Nat) (v i m x : Nat) (hB : B ≤ b) (hd : B ≤ d) (hw : Words ws) (h0 : Blk w b 134 #[.slice (some ⟨d, 0, none⟩) ws.length ws.length]) (h1 : Blk w d 130 (wordCells ws))
    (hv : v ≤ 1000) (hi : v / 64 = i) (hm : 2 ^ (v % 64) = m) (hlt : i < ws.length) (hx : ws.getD i 0 = x) (hxb : x < 18446744073709551616) :
    Calls Tryd.prog 99 #[.pointer (some ⟨b, 0, none⟩), .int .i64 v] w (BPost w B b (ws.set i (x &&& (18446744073709551615 - m)))) := by
  have c0 : w.cell? ⟨b, 0, none⟩ = some (.slice (some ⟨d, 0, none⟩) ws.length ws.length) := (h0.cell 0).trans rfl
  have c1 : w.cell? ⟨d, i, none⟩ = some (.int .u64 (x : Int)) := (h1.cell i).trans (by rw [wordCells_at ws i hlt, hx])
  have f1 : w.frozen? ⟨d, i, none⟩ = false := h1.frozen i
  have hmb := two_pow_lt (Nat.mod_lt v (show 0 < 64 by omega))
  rw [hm] at hmb
  have hnot := u64_not m hmb
  obtain ⟨k, hk⟩ : ∃ k, 18446744073709551615 - m = k := ⟨_, rfl⟩
  rw [hk] at hnot ⊢
  have hor : bits BinOp.and IntKind.u64 (x : Int) (k : Int) = ((x &&& k : Nat) : Int) := u64_and_nat x k hxb (by omega)
  have hend := And.intro (BS.word hB hd hw h0 h1 i (x &&& k) (and_lt hxb)) ((Keep.refl w).set130 h1 i (.int .u64 ((x &&& k : Nat) : Int))).drew
  generalize hxm : x &&& k = y at *
  have Hi := Lib.hid hi
  have Hm := Lib.hid hm
  have Hx := Lib.hid hx
  have HE := Lib.hid hend
  generalize ws.length = n at *
  clear hi hm hx h0 h1 hxm hend hk
  go_enter Tryd.func99, Tryd.ntmps99
  go_wp2_with (go_at_call 96; refine (indexFor _ v i hv Hi.out).mono ?_; rintro e w' ⟨rfl, rfl⟩)
  go_region_with (go_at_call 98; refine (maskFor _ v m hv Hm.out).mono ?_; rintro e w' ⟨rfl, rfl⟩)
  all_goals go_wp2
  all_goals go_end0
  all_goals exact ⟨rfl, ((Below.refl _ _).setCell hd _).drew, HE.out⟩

theorem clear_any (w : World) (B b : Nat) (ws : List Nat) (v : Nat) (h : BS w B b ws) (hv : v ≤ 1000) :
    Calls Tryd.prog 99 #[.pointer (some ⟨b, 0, none⟩), .int .i64 v] w (BPost w B b (delB ws v)) := by
  obtain ⟨hB, hw, A, h0, h1⟩ := h
  unfold delB
  split
  · next hlt =>
    obtain ⟨d, rfl, hd, hr⟩ := h1 (by omega)
    exact clear_in w B b d ws v _ _ _ hB hd hw h0 hr hv rfl rfl hlt rfl (hw.getD _)
  · next hlt => exact clear_out w B b A ws v _ ⟨hB, hw, A, h0, h1⟩ h0 hv rfl (by omega)
theorem remove_any (w : World) (B b : Nat) (ws : List Nat) (v : Nat) (h : BS w B b ws) (hv : v ≤ 1000) :
    Calls Tryd.prog 76 #[.pointer (some ⟨b, 0, none⟩), .int .i64 v] w (BPost w B b (delB ws v)) := by
  have H := Lib.hid h
  clear h
  go_enter Tryd.func76, Tryd.ntmps76
  go_wp2_with (go_at_call 99; refine (clear_any _ B b ws v H.out hv).mono ?_; rintro e w' ⟨rfl, hb, hs⟩; have HB := Lib.hid hb; have HS := Lib.hid hs; clear hb hs)
  go_end0
  exact ⟨rfl, HB.out, HS.out⟩

theorem minLen_any (w : World) (b : Nat) (A : Option Addr) (ws : List Nat) (n k : Nat) (hn : n ≤ 1000) (hk : minB ws = k) (c0 : w.cell? ⟨b, 0, none⟩ = some (.slice A n n)) (hws : ws.length = n)
    (h1 : ∀ i : Nat, i < n → ∃ d, A = some ⟨d, 0, none⟩ ∧ ∃ x : Nat, ws.getD i 0 = x ∧ w.cell? ⟨d, i, none⟩ = some (.int .u64 (x : Int))) :
    Calls Tryd.prog 104 #[.pointer (some ⟨b, 0, none⟩)] w fun e w' => e = .returned (.int .i64 k) ∧ w = w' := by
  have H1 := Lib.hid h1
  have hkn : lastB ws n = k := by rw [← hk, minB, hws]
  have Hk := Lib.hid hkn
  clear h1 hk hws hkn
  go_enter Tryd.func104, Tryd.ntmps104
  go_wp2
  go_loopw [3] (fun s3 wr => ∃ i : Nat, i ≤ n ∧ s3 = .int .i64 (i : Int) ∧ Hid (lastB ws i = k) ∧ wr = w) (fun s3 _ => (intOf s3).toNat)
  case atStart => exact ⟨n, Nat.le_refl _, rfl, Hk, rfl⟩
  case round =>
    obtain ⟨i, hi, rfl, hl, rfl⟩ := hrel
    by_cases h0 : 0 < i
    · obtain ⟨j, rfl⟩ : ∃ j, i = j + 1 := ⟨i - 1, by omega⟩
      obtain ⟨d, rfl, x, hx, c1⟩ := H1.out j (by omega)
      have hl2 := hl.out
      unfold lastB at hl2
      rw [hx] at hl2
      by_cases hx0 : x = 0
      · rw [if_pos hx0] at hl2
        subst hx0
        have Hl2 := Lib.hid hl2
        clear hl hl2 hx
        go_wp2
        go_roundw
        case rel => exact ⟨j, by omega, rfl, Hl2, trivial⟩
        case measure => simp [intOf]
      · rw [if_neg hx0] at hl2
        have Hl2 := Lib.hid hl2
        clear hl hl2 hx
        go_wp2
        go_ret
        exact ⟨retI (by have := Hl2.out; omega), rfl⟩
    · have hi0 : i = 0 := by omega
      subst hi0
      have hl2 := hl.out
      go_wp2
      go_ret
      exact ⟨retI (by rw [← hl2]; rfl), rfl⟩
end Go.Proofs.YtiffjbpejlnndaaDoor
