/-
  Small functions of the interval sets' laws: setAsk, setTo, slices.Equal of two rows that are alike, Only. Conditions: as each theorem says.
-/
import Derived.Test.YtiffjbpejlnndaaDoorImp1
import Derived.Test.YtiffjbpejlnndaaDoorNum5
import Derived.Laws.StructEq
import Derived.Tactics2
import Derived.StillTactics
namespace Go.Proofs.YtiffjbpejlnndaaDoor
open Go.RowKit

/-- The first k of the numbers that are asked. -/
def asksL (k : Nat) : List Int := (List.range k).map fun i : Nat => (i : Int) - 22
theorem asksL_succ (k : Nat) : asksL (k + 1) = asksL k ++ [(k : Int) - 22] := by
  unfold asksL
  rw [List.range_succ, List.map_append]
  rfl
theorem asksL_length (k : Nat) : (asksL k).length = k := by
  unfold asksL
  simp
def intsV (l : List Int) : List Value := l.map fun z => Value.int .i64 z
theorem intsV_snoc (l : List Int) (z : Int) : intsV (l ++ [z]) = intsV l ++ [.int .i64 z] := by simp [intsV]
theorem one_int (z : Int) : ∀ u ∈ [Value.int .i64 z], u.oneCell' = true := by
  intro u hu
  simp at hu
  subst hu
  rfl
theorem info3 : (Tryd.prog.info? 3).map (fun i => (i.zero, i.size, i.bytes)) = some (some (.int .i64 0), 1, 8) := by kernel_rfl
theorem ints_own {w : World} {base n c : Nat} {A : Option Addr} {l : List Int} (h : w.ownsRow base 3 1 (.slice A n c) n (intsV l)) (hn : l.length = n) : IntsAt w w.heap.size A l := fun h0 => by
  rcases own_form h with ⟨h1, _⟩ | ⟨g, c', e, _, hg, _, hc⟩
  · omega
  · injection e with e1
    refine ⟨⟨g, 0, none⟩, e1, hg, fun i hi => ?_⟩
    rw [add_new]
    apply hc
    unfold intsV
    rw [List.getElem?_map, List.getD_eq_getElem?_getD, List.getElem?_eq_getElem hi]
    rfl
set_option maxRecDepth 100000 in
theorem setAsk_any (w : World) : Calls Tryd.prog 21 #[] w fun e w' => ∃ v, e = .returned v ∧ w'.ownsRow w.heap.size 3 1 v 145 (intsV (asksL 145)) ∧ Below w.heap.size w w' := by
  obtain ⟨i0, hi0, hz0, hz1, hz2⟩ := info_parts info3
  go_enter Tryd.func21, Tryd.ntmps21
  go_wp2
  go_loopw [1, 2] (fun s1 s2 wr => ∃ (n : Int) (k : Nat), k ≤ 145 ∧ n = (k : Int) - 22 ∧ s2 = .int .i64 n ∧ wr.ownsRow w.heap.size 3 1 s1 k (intsV (asksL k)) ∧ Below w.heap.size w wr) (fun _ s2 _ => (123 - intOf s2).toNat)
  case atStart => exact ⟨-22, 0, by omega, rfl, rfl, World.ownsRow_nil _ _ _ _, Below.refl _ _⟩
  case round =>
    obtain ⟨n, k, hk, hn, rfl, hown, hb⟩ := hrel
    obtain ⟨A, c, rfl⟩ := own_slice hown
    have hsz := (below_al hb (Nat.le_refl _) (o := .cells #[.int .i64 n] 3)).size
    have HO := Lib.hid hown
    have HB := Lib.hid hb
    have Hn := Lib.hid hn
    have hn1 : -22 ≤ n := by omega
    have hn2 : n ≤ 123 := by omega
    by_cases hlt : n ≤ 122
    · have hk2 : k + 1 ≤ 145 := by omega
      clear hown hb hn
      go_wp2_with (at_builtin; refine wpList_append_own _ rfl (.tmp 7) (.tmp 9) 29 rfl w.heap.size 3 i0 _ 1 8 Tryd.underlying29 hi0 hz0 hz1 hz2 rfl (by decide) _ _ _ rfl (HO.out.alloc _) ⟨wr.heap.size, 0, none⟩ 1 1 [.int .i64 n] rfl rfl (cells_new wr [.int .i64 n] 3 _ rfl) (one_int _) (by unfold maxLen; omega) (by omega) hsz ?_; intro v' w3 hown' hgrow _)
      have hb3 := (below_al HB.out (Nat.le_refl _)).grown hgrow hsz (fun j hj => (HO.out.lt j hj).1)
      rw [Hn.out, ← intsV_snoc, ← asksL_succ] at hown'
      have HO3 := Lib.hid hown'
      have HN2 := Lib.hid (show n + 1 = ((k + 1 : Nat) : Int) - 22 by have := Hn.out; omega)
      clear hown' hgrow
      go_roundw
      case rel => exact ⟨n + 1, k + 1, hk2, HN2.out, rfl, HO3.out, hb3⟩
      case measure =>
        simp [intOf]
        omega
    · obtain rfl : k = 145 := by omega
      clear hown hb hn
      go_wp2
      go_ret
      exact ⟨_, rfl, HO.out, HB.out⟩

/-- The cells of a row of steps. -/
def stepRow (l : List Stp) : List Value := l.flatMap fun s => [.int .u8 (s.op : Int), .int .i64 s.set, .int .i64 s.a, .int .i64 s.b]
theorem stepRow_snoc (l : List Stp) (s : Stp) : stepRow (l ++ [s]) = stepRow l ++ [.int .u8 (s.op : Int), .int .i64 s.set, .int .i64 s.a, .int .i64 s.b] := by simp [stepRow]
theorem stepRow_length (l : List Stp) : (stepRow l).length = l.length * 4 := by
  induction l with
  | nil => rfl
  | cons q l ih =>
    have e : stepRow (q :: l) = .int .u8 (q.op : Int) :: .int .i64 q.set :: .int .i64 q.a :: .int .i64 q.b :: stepRow l := rfl
    rw [e, List.length_cons, List.length_cons, List.length_cons, List.length_cons, List.length_cons, ih]
    omega
theorem stepRow_at : ∀ (l : List Stp) (k : Nat) (s : Stp), l[k]? = some s → (stepRow l)[k * 4]? = some (.int .u8 (s.op : Int)) ∧ (stepRow l)[k * 4 + 1]? = some (.int .i64 s.set) ∧ (stepRow l)[k * 4 + 2]? = some (.int .i64 s.a) ∧ (stepRow l)[k * 4 + 3]? = some (.int .i64 s.b)
  | [], k, s, h => by simp at h
  | q :: l, 0, s, h => by
    have : q = s := by simpa using h
    subst this
    exact ⟨rfl, rfl, rfl, rfl⟩
  | q :: l, k + 1, s, h => by
    have ih := stepRow_at l k s (by simpa using h)
    have e : stepRow (q :: l) = .int .u8 (q.op : Int) :: .int .i64 q.set :: .int .i64 q.a :: .int .i64 q.b :: stepRow l := rfl
    rw [e, show (k + 1) * 4 = k * 4 + 1 + 1 + 1 + 1 by omega, show k * 4 + 1 + 1 + 1 + 1 + 1 = k * 4 + 1 + 1 + 1 + 1 + 1 by omega, show k * 4 + 1 + 1 + 1 + 1 + 2 = k * 4 + 2 + 1 + 1 + 1 + 1 by omega, show k * 4 + 1 + 1 + 1 + 1 + 3 = k * 4 + 3 + 1 + 1 + 1 + 1 by omega]
    simpa using ih
theorem steps_own {w : World} {base n c : Nat} {e : TypeId} {A : Option Addr} {l : List Stp} (h : w.ownsRow base e 4 (.slice A n c) n (stepRow l)) (hn : l.length = n) : StepsAt w w.heap.size A l := fun h0 => by
  rcases own_form h with ⟨h1, _⟩ | ⟨g, c', e, _, hg, _, hc⟩
  · omega
  · injection e with e1
    refine ⟨⟨g, 0, none⟩, e1, hg, fun k s hs => ?_⟩
    obtain ⟨a1, a2, a3, a4⟩ := stepRow_at l k s hs
    rw [add_new, add_new, add_new, add_new]
    exact ⟨hc _ _ a1, hc _ _ a2, hc _ _ a3, hc _ _ a4⟩
theorem step_one (s : Stp) : ∀ u ∈ [Value.int .u8 (s.op : Int), .int .i64 s.set, .int .i64 s.a, .int .i64 s.b], u.oneCell' = true := by
  intro u hu
  simp at hu
  rcases hu with rfl | rfl | rfl | rfl <;> rfl
theorem info95 : (Tryd.prog.info? 95).map (fun i => (i.zero, i.size, i.bytes)) = some (some (.agg #[.int .u8 0, .int .i64 0, .int .i64 0, .int .i64 0]), 4, 32) := by kernel_rfl
set_option maxRecDepth 100000 in
theorem setTo_any (w : World) (U : Nat) (A : Option Addr) (c : Nat) (l : List Stp) (h : StepsAt w U A l) (hU : U ≤ w.heap.size) (hn : l.length ≤ 1000) :
    Calls Tryd.prog 31 #[.slice A l.length c] w fun e w' => ∃ v, e = .returned v ∧ w'.ownsRow w.heap.size 95 4 v l.length (stepRow l) ∧ Below w.heap.size w w' := by
  obtain ⟨i0, hi0, hz0, hz1, hz2⟩ := info_parts info95
  have H := Lib.hid h
  obtain ⟨n, hnn⟩ : ∃ n, l.length = n := ⟨_, rfl⟩
  rw [hnn] at hn ⊢
  have Hn := Lib.hid hnn
  clear h hnn
  go_enter Tryd.func31, Tryd.ntmps31
  go_wp2
  go_loopw [3, 8] (fun s3 s8 wr => ∃ k : Nat, k ≤ n ∧ s8 = .int .i64 (k : Int) ∧ wr.ownsRow w.heap.size 95 4 s3 k (stepRow (l.take k)) ∧ Below w.heap.size w wr) (fun _ s8 _ => n - (intOf s8).toNat)
  case atStart => exact ⟨0, Nat.zero_le _, rfl, World.ownsRow_nil _ _ _ _, Below.refl _ _⟩
  case round =>
    obtain ⟨k, hk, rfl, hown, hb⟩ := hrel
    obtain ⟨A3, c3, rfl⟩ := own_slice hown
    have HB := Lib.hid hb
    by_cases hlt : k < n
    · obtain ⟨s, hs⟩ : ∃ s, l[k]? = some s := ⟨l[k]'(by rw [Hn.out]; exact hlt), List.getElem?_eq_getElem _⟩
      obtain ⟨ad, rfl, had, d0, d1, d2, d3⟩ := (H.out.below hb hU).at_ hs
      have Hst := Lib.hid (show stepRow (l.take (k + 1)) = _ by rw [take_at hs, stepRow_snoc])
      have hba := below_al hb (Nat.le_refl _) (o := P70 s)
      have hoa := hown.alloc (P70 s)
      have hbk : Blk (wr.alloc (P70 s)) wr.heap.size 70 #[.int .u8 (s.op : Int), .int .i64 s.set, .int .i64 s.a, .int .i64 s.b] := Blk.new _ _ _
      go_upto_region 5 with fail
      generalize (wr.alloc (.cells #[.int .u8 (s.op : Int), .int .i64 s.set, .int .i64 s.a, .int .i64 s.b] 70)) = wa at hba hoa hbk ⊢
      generalize wr.heap.size = zb at hbk ⊢
      obtain ⟨y0, y1, y2, y3, _, _, _, _⟩ := cells4 hbk
      have HO := Lib.hid hoa
      have HBA := Lib.hid hba
      have hsz := (below_al hba (Nat.le_refl _) (o := .cells #[.int .u8 (s.op : Int), .int .i64 s.set, .int .i64 s.a, .int .i64 s.b] 95)).size
      clear hs hown hb hba hoa hbk d0 d1 d2 d3
      go_wp2_with (at_builtin; refine wpList_append_own _ rfl (.tmp 12) (.tmp 14) 76 rfl w.heap.size 95 i0 _ 4 32 Tryd.underlying76 hi0 hz0 hz1 hz2 rfl (by decide) _ _ _ rfl (HO.out.alloc _) ⟨wa.heap.size, 0, none⟩ 1 1 [.int .u8 (s.op : Int), .int .i64 s.set, .int .i64 s.a, .int .i64 s.b] rfl rfl (cells_new wa [.int .u8 (s.op : Int), .int .i64 s.set, .int .i64 s.a, .int .i64 s.b] 95 _ rfl) (step_one s) (by unfold maxLen; omega) (by omega) hsz ?_; intro v' w3 hown' hgrow _)
      have hb3 := (below_al HBA.out (Nat.le_refl _)).grown hgrow hsz (fun j hj => (HO.out.lt j hj).1)
      rw [← Hst.out] at hown'
      have HO3 := Lib.hid hown'
      clear hown' hgrow
      go_roundw
      case rel => exact ⟨k + 1, by omega, rfl, HO3.out, hb3⟩
      case measure =>
        simp [intOf]
        omega
    · have hkn : k = n := by omega
      subst hkn
      rw [List.take_of_length_le (by rw [Hn.out]; exact Nat.le_refl _)] at hown
      have HO := Lib.hid hown
      clear hown hb
      go_wp2
      go_ret
      exact ⟨_, rfl, HO.out, HB.out⟩
theorem eq62 (a b c d : Int) (w : World) : (Op.equalIn 10000 62 (.agg #[.int .i64 a, .int .i64 b]) (.agg #[.int .i64 c, .int .i64 d])).run Tryd.prog w = .ok (a == c && b == d) w := by
  have u3 := Tryd.underlying3
  have a3 := Tryd.isAgg3
  have z3 := Tryd.sizeOf3
  rw [show (10000 : Nat) = 9999 + 1 from rfl, Op.equalIn]
  simp only [Sem.run_bind, run_underlying Tryd.underlying62, Result.andThen_ok]
  simp only [Std.Legacy.Range.forIn_eq_forIn_range', Std.Legacy.Range.size, Nat.sub_zero, Nat.add_sub_cancel, Nat.div_one, List.range'_succ, List.range'_zero, List.forIn_cons, List.forIn_nil]
  go_simp
  by_cases h1 : a = c <;> by_cases h2 : b = d <;> simp [h1, h2]
theorem neq62 (w : World) (a b : Int) : (binOp .neq 62 (.agg #[.int .i64 a, .int .i64 b]) (.agg #[.int .i64 a, .int .i64 b])).run Tryd.prog w = .ok (.bool false) w := by
  rw [run_neq_struct, eq62]
  simp
/-- A row of runs as it is read. -/
def RowR (w : World) (A : Option Addr) (l : List Rng) : Prop := ∀ k p, l[k]? = some p → ∃ g, A = some ⟨g, 0, none⟩ ∧ g < w.heap.size ∧ w.cell? ⟨g, k * 2, none⟩ = some (.int .i64 p.1) ∧ w.cell? ⟨g, k * 2 + 1, none⟩ = some (.int .i64 (p.2 - 1))
theorem RowR.below {w w' : World} {A : Option Addr} {l : List Rng} (h : RowR w A l) (hb : Below w.heap.size w w') : RowR w' A l := fun k p hk => by
  obtain ⟨g, e, hg, c1, c2⟩ := h k p hk
  exact ⟨g, e, Nat.lt_of_lt_of_le hg hb.size, (hb.cell (p := ⟨g, k * 2, none⟩) hg).trans c1, (hb.cell (p := ⟨g, k * 2 + 1, none⟩) hg).trans c2⟩
theorem RowR.of_own {w : World} {base n c : Nat} {A : Option Addr} {l : List Rng} (h : w.ownsRow base 62 2 (.slice A n c) n (rowJ l)) (hn : l.length = n) : RowR w A l := fun k p hk => by
  subst hn
  obtain ⟨g, c', e, _, hg, d1, d2⟩ := rowJ_cells h hk
  injection e with e1
  exact ⟨g, e1, hg, d1, d2⟩
set_option maxRecDepth 100000 in
theorem equalJ_yes (w : World) (A1 A2 : Option Addr) (c1 c2 : Nat) (l : List Rng) (h1 : RowR w A1 l) (h2 : RowR w A2 l) (hb : l.length ≤ 1000) :
    Calls Tryd.prog 23 #[.slice A1 l.length c1, .slice A2 l.length c2] w (Saw w (.bool true)) := by
  have H1 := Lib.hid h1
  have H2 := Lib.hid h2
  obtain ⟨n, hn⟩ : ∃ n, l.length = n := ⟨_, rfl⟩
  rw [hn] at hb ⊢
  have Hn := Lib.hid hn
  clear h1 h2 hn
  go_enter Tryd.func23, Tryd.ntmps23
  go_wp2
  go_loopw [13] (fun s13 wr => ∃ k : Nat, k ≤ n ∧ s13 = .int .i64 (k : Int) ∧ Below w.heap.size w wr) (fun s13 _ => n - (intOf s13).toNat)
  case atStart => exact ⟨0, Nat.zero_le _, rfl, Below.refl _ _⟩
  case round =>
    obtain ⟨k, hk, rfl, hb2⟩ := hrel
    by_cases hlt : k < n
    · obtain ⟨p, hp⟩ : ∃ p, l[k]? = some p := ⟨l[k]'(by rw [Hn.out]; exact hlt), List.getElem?_eq_getElem _⟩
      obtain ⟨g1, rfl, _, d1, d1'⟩ := H1.out.below hb2 k p hp
      obtain ⟨g2, rfl, _, d2, d2'⟩ := H2.out.below hb2 k p hp
      have HB := Lib.hid hb2
      have hq := fun W => neq62 W p.1 (p.2 - 1)
      clear hb2 hp
      go_upto_region 6 with fail
      go_quiet (fail)
      go_wp2
      go_roundw
      case rel => exact ⟨k + 1, by omega, rfl, below_drewN HB.out _⟩
      case measure =>
        simp [intOf]
        omega
    · have HB := Lib.hid hb2
      clear hb2
      go_wp2
      go_ret
      exact ⟨rfl, HB.out⟩
end Go.Proofs.YtiffjbpejlnndaaDoor
