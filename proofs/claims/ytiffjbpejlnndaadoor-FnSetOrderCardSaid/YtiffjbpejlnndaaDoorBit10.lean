/-
  The door's bit sets: make (numbers added, others removed). Conditions: numbers from 0 to 1000, at most 2^31 of them.
-/
import Derived.Test.YtiffjbpejlnndaaDoorBit9
namespace Go.Proofs.YtiffjbpejlnndaaDoor
open Go.RowKit

/-- A slice of numbers, below block U. -/
def NatsAt (w : World) (U : Nat) (A : Option Addr) (l : List Nat) : Prop :=
  0 < l.length → ∃ a, A = some a ∧ a.block < U ∧ ∀ i, i < l.length → w.cell? (a.add i) = some (.int .i64 ((l.getD i 0 : Nat) : Int))
theorem addr_add_block (a : Addr) (i : Nat) : (a.add i).block = a.block := by unfold Addr.add; split <;> rfl
theorem NatsAt.below {w w' : World} {U B : Nat} {A : Option Addr} {l : List Nat} (h : NatsAt w U A l) (hb : Below B w w') (hU : U ≤ B) : NatsAt w' U A l := fun h0 => by
  obtain ⟨a, e, ha, hc⟩ := h h0
  exact ⟨a, e, ha, fun i hi => (hb.cell (p := a.add i) (by rw [addr_add_block]; exact Nat.lt_of_lt_of_le ha hU)).trans (hc i hi)⟩
theorem NatsAt.nil (w : World) (U : Nat) : NatsAt w U none [] := fun h => absurd h (by decide)

def setW (l1 l2 : List Nat) : List Nat := l2.foldl delB (l1.foldl addB [])
theorem foldl_take {α : Type} (f : List Nat → α → List Nat) (l : List α) (s : List Nat) (k : Nat) (x : α) (h : l[k]? = some x) : (l.take (k + 1)).foldl f s = f ((l.take k).foldl f s) x := by
  rw [List.take_add_one, h, List.foldl_append]
  rfl

/-- The variable that holds the set. -/
def Var85 (w : World) (g b : Nat) : Prop := Blk w g 85 #[.pointer (some ⟨b, 0, none⟩)]

theorem BS.far {w : World} {B b g : Nat} {t : TypeId} {cs : Array Value} {ws : List Nat} (h : BS w B b ws) (hg : Blk w g t cs) (h1 : t ≠ 130) (h2 : t ≠ 134) (i : Nat) (u : Value) : BS (w.setCell ⟨g, i, none⟩ u) B b ws := by
  obtain ⟨q1, q2, A, q3, q4⟩ := h
  refine ⟨q1, q2, A, q3.far (p := ⟨g, i, none⟩) (Blk.ne_ q3 hg (fun e => h2 e.symm)) u, fun h0 => ?_⟩
  obtain ⟨d, e, hd, q5⟩ := q4 h0
  exact ⟨d, e, hd, q5.far (p := ⟨g, i, none⟩) (Blk.ne_ q5 hg (fun e => h1 e.symm)) u⟩
def MkInv (w : World) (b g : Nat) (wr : World) (ws : List Nat) : Prop := Below w.heap.size w wr ∧ BS wr w.heap.size b ws ∧ Blk wr g 85 #[.pointer (some ⟨b, 0, none⟩)] ∧ Blk wr w.heap.size 85 #[.pointer none]
theorem MkInv.step {w : World} {b g : Nat} {wr w2 : World} {ws ws2 : List Nat} (h : MkInv w b g wr ws) (hb : Below w.heap.size wr w2) (hs : BS w2 w.heap.size b ws2) (hk : Keep wr w2) : MkInv w b g w2 ws2 :=
  ⟨h.1.trans hb, hs, hk _ _ _ (by decide) (by decide) h.2.2.1, hk _ _ _ (by decide) (by decide) h.2.2.2⟩
theorem mk_round {w : World} {b g : Nat} {wr : World} {ws : List Nat} {U : Nat} {A : Option Addr} {l : List Nat} {k : Nat} (h : MkInv w b g wr ws) (hl : NatsAt w U A l) (hU : U ≤ w.heap.size) (hk : k < l.length) :
    ∃ x : Nat, l[k]? = some x ∧ wr.cell? ⟨g, 0, none⟩ = some (.pointer (some ⟨b, 0, none⟩)) ∧ ∃ a, A = some a ∧ wr.cell? (a.add k) = some (.int .i64 (x : Int)) := by
  obtain ⟨a, e, _, hc⟩ := hl.below h.1 hU (by omega)
  refine ⟨l[k], List.getElem?_eq_getElem hk, h.2.2.1.cell 0, a, e, ?_⟩
  rw [hc k hk, List.getD_eq_getElem?_getD, List.getElem?_eq_getElem hk]
  rfl

set_option maxRecDepth 100000 in
theorem make_any (w : World) (U : Nat) (A1 A2 : Option Addr) (c1 c2 : Nat) (l1 l2 : List Nat) (h1 : NatsAt w U A1 l1) (h2 : NatsAt w U A2 l2) (hU : U ≤ w.heap.size)
    (n1 : ∀ x ∈ l1, x ≤ 1000) (n2 : ∀ x ∈ l2, x ≤ 1000) (m1 : l1.length ≤ 2147483647) (m2 : l2.length ≤ 2147483647) :
    Calls Tryd.prog 37 #[.slice A1 l1.length c1, .slice A2 l2.length c2] w fun e w' => ∃ b, e = .returned (bv b) ∧ Below w.heap.size w w' ∧ BS w' w.heap.size b (setW l1 l2) := by
  have H1 := Lib.hid h1
  have H2 := Lib.hid h2
  have N1 := Lib.hid n1
  have N2 := Lib.hid n2
  have hz : Blk (w.alloc Z85) w.heap.size 85 #[.pointer none] := Blk.new _ _ _
  have Hz := Lib.hid hz
  obtain ⟨a1, ha1⟩ : ∃ a, l1.length = a := ⟨_, rfl⟩
  obtain ⟨a2, ha2⟩ : ∃ a, l2.length = a := ⟨_, rfl⟩
  rw [ha1] at m1 ⊢
  rw [ha2] at m2 ⊢
  have Ha1 := Lib.hid ha1
  have Ha2 := Lib.hid ha2
  clear h1 h2 n1 n2 hz ha1 ha2
  go_enter Tryd.func37, Tryd.ntmps37
  go_wp2_with (go_at_call 38; go_fit (zznew _); rintro e w1 ⟨b, rfl, hb, hs⟩; have hz1 := Hz.out.below hb Hz.out.lt; have Hz1 := Lib.hid hz1; have HB := Lib.hid hb; have HS := Lib.hid hs; clear hb hs hz1)
  have hi0 : MkInv w b w1.heap.size (w1.alloc (P85 b)) [] := ⟨((((Below.refl _ w).alloc (Nat.le_refl _) _).trans (HB.out.mono (by simp))).alloc (by have := HB.out.size; simp at this; omega) _), (bs_alloc HS.out _).mono (by simp), Blk.new _ _ _, Hz1.out.alloc _⟩
  have HI0 := Lib.hid hi0
  clear hi0
  go_loopw [13] (fun s13 wr => ∃ k : Nat, k ≤ a1 ∧ s13 = .int .i64 (k : Int) ∧ MkInv w b w1.heap.size wr ((l1.take k).foldl addB [])) (fun s13 _ => a1 - (intOf s13).toNat)
  case atStart => exact ⟨0, Nat.zero_le _, rfl, HI0.out⟩
  case round =>
    obtain ⟨k, hk, rfl, hinv⟩ := hrel
    by_cases hlt : k < a1
    · obtain ⟨x, hx, c5, a, rfl, cx⟩ := mk_round hinv H1.out hU (by rw [Ha1.out]; exact hlt)
      have hxb := N1.out x (List.mem_of_getElem? hx)
      have Hx := Lib.hid hx
      have HI := Lib.hid hinv
      clear hx hinv
      go_wp2_with (go_at_call 39; go_fit (zzadd _ w.heap.size b _ x HI.out.1.size HI.out.2.1 hxb); rintro e w2 ⟨rfl, hb, hs, hk2⟩; have HI2 := Lib.hid (HI.out.step hb hs hk2); clear hb hs hk2)
      go_roundw
      case rel => exact ⟨k + 1, by omega, rfl, by rw [foldl_take addB l1 [] k x Hx.out]; exact HI2.out⟩
      case measure =>
        simp [intOf]
        omega
    · have hkn : k = a1 := by omega
      subst hkn
      rw [List.take_of_length_le (by rw [Ha1.out]; exact Nat.le_refl _)] at hinv
      have HI := Lib.hid hinv
      clear hinv
      go_wp2
      go_loopw [23] (fun s23 wr => ∃ k : Nat, k ≤ a2 ∧ s23 = .int .i64 (k : Int) ∧ MkInv w b w1.heap.size wr ((l2.take k).foldl delB (l1.foldl addB []))) (fun s23 _ => a2 - (intOf s23).toNat)
      case atStart => exact ⟨0, Nat.zero_le _, rfl, HI.out⟩
      case round =>
        obtain ⟨k2, hk2, rfl, hinv⟩ := hrel
        by_cases hlt2 : k2 < a2
        · obtain ⟨x, hx, c5, a, rfl, cx⟩ := mk_round hinv H2.out hU (by rw [Ha2.out]; exact hlt2)
          have hxb := N2.out x (List.mem_of_getElem? hx)
          have Hx := Lib.hid hx
          have HJ := Lib.hid hinv
          clear hx hinv
          go_wp2_with (go_at_call 40; go_fit (zzremove _ w.heap.size b _ x HJ.out.1.size HJ.out.2.1 hxb); rintro e w2 ⟨rfl, hb, hs, hk2⟩; have HI2 := Lib.hid (HJ.out.step hb hs hk2); clear hb hs hk2)
          go_roundw
          case rel => exact ⟨k2 + 1, by omega, rfl, by rw [foldl_take delB l2 _ k2 x Hx.out]; exact HI2.out⟩
          case measure =>
            simp [intOf]
            omega
        · rw [List.take_of_length_le (by rw [Ha2.out]; omega)] at hinv
          have c5 : wr.cell? ⟨w1.heap.size, 0, none⟩ = some (.pointer (some ⟨b, 0, none⟩)) := hinv.2.2.1.cell 0
          have c4 : wr.cell? ⟨w.heap.size, 0, none⟩ = some (.pointer none) := hinv.2.2.2.cell 0
          have f4 := hinv.2.2.2.frozen 0
          have HJ := Lib.hid hinv
          clear hinv
          go_wp2
          have hz2 : Blk _ w.heap.size 85 #[.pointer (some ⟨b, 0, none⟩)] := HJ.out.2.2.2.set_ 0 (.pointer (some ⟨b, 0, none⟩))
          refine bodyPost_ret (results_cell_row rfl _ _ w.heap.size 85 #[.pointer (some ⟨b, 0, none⟩)] (0, 0) _ rfl hz2 Tryd.underlying85 rfl info85) rfl ?_
          exact ⟨b, rfl, HJ.out.1.setCell (p := ⟨w.heap.size, 0, none⟩) (Nat.le_refl _) _, HJ.out.2.1.far HJ.out.2.2.2 (by decide) (by decide) 0 _⟩
end Go.Proofs.YtiffjbpejlnndaaDoor
