/-
  Two bit sets compared; the exported door's methods. Conditions: as in Bit2.
-/
import Derived.Test.YtiffjbpejlnndaaDoorBit7
import Derived.LaidEqlPtr
namespace Go.Proofs.YtiffjbpejlnndaaDoor
open Go.RowKit

def SawBool (w : World) (e : Ending) (w' : World) : Prop := ∃ x, e = .returned (.bool x) ∧ Below w.heap.size w w'
theorem assert83 (p : Option Addr) (W : World) : (Instr.typeAssert (.iface 83 (.pointer p)) 20 83 true).run Tryd.prog W = .ok (.tuple #[.pointer p, .bool true]) W := by kernel_rfl
theorem info134 : (Tryd.prog.info? 134).map (·.size) = some 1 := by kernel_rfl
theorem ptrs_other (w : World) (b b2 : Nat) (c1 c2 : Array Value) (h1 : Blk w b 134 c1) (h2 : Blk w b2 134 c2) (hne : b ≠ b2) : (binOp .eql 83 (.pointer (some ⟨b, 0, none⟩)) (.pointer (some ⟨b2, 0, none⟩))).run Tryd.prog w = .ok (.bool false) w := by
  obtain ⟨j, hj, hs⟩ := Option.map_eq_some_iff.1 info134
  exact run_eql_ptr_other w Tryd.underlying83 hj (by omega) (by intro e; exact hne (congrArg Addr.block e)) h1 h2
set_option maxRecDepth 100000 in
theorem equals_v (w : World) (U b b2 : Nat) (ws vs : List Nat) (h : BV w U b ws) (h2 : BV w U b2 vs) (hn : ws.length ≤ 1000) (hn2 : vs.length ≤ 1000) (hne : b ≠ b2) :
    Calls Tryd.prog 82 #[.pointer (some ⟨b, 0, none⟩), .iface 83 (.pointer (some ⟨b2, 0, none⟩))] w (SawBool w) := by
  obtain ⟨A, c0, h1⟩ := h.row
  obtain ⟨A2, d0, k1⟩ := h2.row
  have hl1 := minB_le ws
  have hl2 := minB_le vs
  have H := Lib.hid h
  have K := Lib.hid h2
  have H1 := Lib.hid h1
  have K1 := Lib.hid k1
  obtain ⟨mw, hmw⟩ : ∃ mw, minB ws = mw := ⟨_, rfl⟩
  obtain ⟨mv, hmv⟩ : ∃ mv, minB vs = mv := ⟨_, rfl⟩
  rw [hmw] at hl1
  rw [hmv] at hl2
  have Hmw := Lib.hid hmw
  have Hmv := Lib.hid hmv
  obtain ⟨n, hnn⟩ : ∃ n, ws.length = n := ⟨_, rfl⟩
  obtain ⟨m, hmm⟩ : ∃ m, vs.length = m := ⟨_, rfl⟩
  have Hn := Lib.hid hn
  have Hm := Lib.hid hn2
  rw [hnn] at c0 hl1 hn
  rw [hmm] at d0 hl2 hn2
  have Hnn := Lib.hid hnn
  have Hmm := Lib.hid hmm
  clear h h2 h1 k1 hmw hmv hnn hmm
  have hpp : (binOp .eql 83 (.pointer (some ⟨b, 0, none⟩)) (.pointer (some ⟨b2, 0, none⟩))).run Tryd.prog w = .ok (.bool false) w := by
    obtain ⟨_, _, _, q1, _⟩ := H.out
    obtain ⟨_, _, _, q2, _⟩ := K.out
    exact ptrs_other w b b2 _ _ q1 q2 hne
  have hta := assert83 (some ⟨b2, 0, none⟩)
  by_cases hmm2 : mw = mv
  all_goals
    go_enter Tryd.func82, Tryd.ntmps82
    go_wp2_with (first
      | (go_at_call 104; go_fit (minLen_v _ _ b ws H.out Hn.out); rw [Hmw.out]; rintro e w' ⟨rfl, rfl⟩)
      | (go_at_call 104; go_fit (minLen_v _ _ b2 vs K.out Hm.out); rw [Hmv.out]; rintro e w' ⟨rfl, rfl⟩))
  · subst hmm2
    go_loopw [9] (fun s9 wr => ∃ k : Nat, k ≤ mw ∧ s9 = .int .i64 (k : Int) ∧ Below w.heap.size w wr) (fun s9 _ => mw - (intOf s9).toNat)
    case atStart => exact ⟨0, Nat.zero_le _, rfl, Below.refl _ _⟩
    case round =>
      obtain ⟨k, hk, rfl, hb⟩ := hrel
      by_cases hlt : k < mw
      · obtain ⟨d, rfl, x, _, hxb, c2⟩ := H1.out k (by rw [Hnn.out]; omega)
        obtain ⟨d2, rfl, y, _, hyb, d3⟩ := K1.out k (by rw [Hmm.out]; omega)
        have c1 := (hb.cell (p := ⟨b, 0, none⟩) (World.block_lt_of_cell? w _ c0)).trans c0
        have d1 := (hb.cell (p := ⟨b2, 0, none⟩) (World.block_lt_of_cell? w _ d0)).trans d0
        have c3 := (hb.cell (p := ⟨d, k, none⟩) (World.block_lt_of_cell? w _ c2)).trans c2
        have d4 := (hb.cell (p := ⟨d2, k, none⟩) (World.block_lt_of_cell? w _ d3)).trans d3
        have HB := Lib.hid hb
        have hkn : k < n := by omega
        have hkm : k < m := by omega
        clear hb c0 d0 c2 d3
        go_upto_region 13 with fail
        go_quiet (fail)
        by_cases hxy : x = y
        · subst hxy
          go_wp2
          go_roundw
          case rel => exact ⟨k + 1, by omega, rfl, below_drewN HB.out _⟩
          case measure =>
            simp [intOf]
            omega
        · go_wp2
          go_ret
          exact ⟨_, rfl, below_drewN HB.out _⟩
      · go_wp2
        go_ret
        exact ⟨_, rfl, hb⟩
  · go_ret
    exact ⟨_, rfl, Below.refl _ _⟩
end Go.Proofs.YtiffjbpejlnndaaDoor
