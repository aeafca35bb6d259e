/-
  Interval sets in memory: the small functions, reading, the empty set, what the ways of adding want. Conditions: those of each theorem.
-/
import Derived.Test.YtiffjbpejlnndaaDoorBit11
import Derived.Test.YtiffjbpejlnndaaDoorIvlP
import Derived.Test.YtiffjbpejlnndaaDoorBit12
import Derived.Laws.OwnMore
namespace Go.Proofs.YtiffjbpejlnndaaDoor
open Go.RowKit

theorem info109 : (Tryd.prog.info? 109).map (·.size) = some 2 := by kernel_rfl
theorem newInterval_any (w : World) (a b : Int) : Calls Tryd.prog 72 #[.int .i64 a, .int .i64 b] w (Saw w (.agg #[.int .i64 a, .int .i64 b])) := by
  go_enter Tryd.func72, Tryd.ntmps72
  go_wp2
  (try simp only [Exit.inBlock, Exit.then])
  refine bodyPost_ret (results_cell_row rfl _ _ w.heap.size 109 #[.int .i64 a, .int .i64 b] (0, 0) _ rfl (Blk.new _ _ _) Tryd.underlying109 rfl info109) rfl ?_
  exact ⟨rfl, (Below.refl _ _).alloc (Nat.le_refl _) _⟩
theorem intMin_any (w : World) (a b : Int) :
    Calls Tryd.prog 95 #[.int .i64 a, .int .i64 b] w fun e w' => e = .returned (.int .i64 (min a b)) ∧ w = w' := by
  by_cases h : a < b
  all_goals
    go_enter Tryd.func95, Tryd.ntmps95
    go_wp2
    go_ret
    exact ⟨retI (by omega), rfl⟩
theorem info142 : (Tryd.prog.info? 142).map (·.size) = some 2 := by kernel_rfl
theorem newSet_any (w : World) : Calls Tryd.prog 84 #[] w fun e w' => e = .returned (.pointer (some ⟨w.heap.size, 0, none⟩)) ∧ Below w.heap.size w w' ∧ Blk w' w.heap.size 142 #[.slice none 0 0, .bool false] := by
  have hz : Blk (w.alloc (.cells #[.slice none 0 0, .bool false] 142)) w.heap.size 142 #[.slice none 0 0, .bool false] := Blk.new _ _ _
  have HZ := Lib.hid hz
  clear hz
  go_enter Tryd.func84, Tryd.ntmps84
  go_wp2
  go_ret
  exact ⟨rfl, (Below.refl _ _).alloc (Nat.le_refl _) _, HZ.out⟩

/-- The cells of a row of ranges. -/
def rowI (l : List Rng) : List Value := l.flatMap fun p => [.int .i64 p.1, .int .i64 p.2]
theorem rowI_at : ∀ (l : List Rng) (k : Nat) (p : Rng), l[k]? = some p → (rowI l)[k * 2]? = some (.int .i64 p.1) ∧ (rowI l)[k * 2 + 1]? = some (.int .i64 p.2)
  | [], k, p, h => by simp at h
  | q :: l, 0, p, h => by
    have : q = p := by simpa using h
    subst this
    exact ⟨rfl, rfl⟩
  | q :: l, k + 1, p, h => by
    have ih := rowI_at l k p (by simpa using h)
    have e : rowI (q :: l) = .int .i64 q.1 :: .int .i64 q.2 :: rowI l := rfl
    rw [e, show (k + 1) * 2 = k * 2 + 1 + 1 by omega]
    simpa using ih
theorem rowI_length (l : List Rng) : (rowI l).length = l.length * 2 := by
  induction l with
  | nil => rfl
  | cons q l ih =>
    have e : rowI (q :: l) = .int .i64 q.1 :: .int .i64 q.2 :: rowI l := rfl
    rw [e, List.length_cons, List.length_cons, List.length_cons, ih]
    omega
/-- Block b is an interval set with these ranges; its row lies from block B on. -/
def IS (w : World) (B b : Nat) (v : Value) (l : List Rng) : Prop := B ≤ b ∧ Blk w b 142 #[v, .bool false] ∧ w.ownsRow B 109 2 v l.length (rowI l) ∧ (v = .slice none 0 0 ↔ l = [])
end Go.Proofs.YtiffjbpejlnndaaDoor
namespace Go.Proofs.YtiffjbpejlnndaaDoor
open Go.RowKit

theorem IS.form {w : World} {B b : Nat} {v : Value} {l : List Rng} (h : IS w B b v l) : ∃ A c, v = .slice A l.length c := own_slice h.2.2.1
theorem IS.cells {w : World} {B b : Nat} {A : Option Addr} {c : Nat} {l : List Rng} (h : IS w B b (.slice A l.length c) l) {k : Nat} {p : Rng} (hk : l[k]? = some p) :
    ∃ g, A = some ⟨g, 0, none⟩ ∧ g < w.heap.size ∧ w.cell? ⟨g, k * 2, none⟩ = some (.int .i64 p.1) ∧ w.cell? ⟨g, k * 2 + 1, none⟩ = some (.int .i64 p.2) := by
  obtain ⟨h1, h2⟩ := rowI_at l k p hk
  have hl : k < l.length := by
    rcases Nat.lt_or_ge k l.length with h2 | h2
    · exact h2
    · rw [List.getElem?_eq_none h2] at hk
      cases hk
  rcases own_form h.2.2.1 with ⟨h0, _⟩ | ⟨g, c', e, _, hg, _, hc⟩
  · omega
  · injection e with e1
    exact ⟨g, e1, hg, hc _ _ h1, hc _ _ h2⟩
theorem first_any (w : World) (B b : Nat) (v : Value) (l : List Rng) (h : IS w B b v l) (hn : l.length ≤ 1000) :
    Calls Tryd.prog 90 #[.pointer (some ⟨b, 0, none⟩)] w fun e w' => e = .returned (.int .i64 ((l.head?.map (·.1)).getD 0)) ∧ w' = w := by
  obtain ⟨A, c, rfl⟩ := h.form
  have c0 : w.cell? ⟨b, 0, none⟩ = some (.slice A l.length c) := h.2.1.cell 0
  cases l with
  | nil =>
    have c0 : w.cell? ⟨b, 0, none⟩ = some (.slice A 0 c) := c0
    clear h hn
    go_enter Tryd.func90, Tryd.ntmps90
    go_wp2
    go_ret
    exact ⟨rfl, rfl⟩
  | cons p r =>
    obtain ⟨g, rfl, _, c1, c2⟩ := h.cells (k := 0) (p := p) rfl
    have c1 : w.cell? ⟨g, 0, none⟩ = some (.int .i64 p.1) := c1
    clear h
    obtain ⟨n, hnn⟩ : ∃ n, (p :: r).length = n := ⟨_, rfl⟩
    have hpos : 0 < n := by rw [← hnn]; exact Nat.succ_pos _
    rw [hnn] at c0 hn
    clear hnn
    go_enter Tryd.func90, Tryd.ntmps90
    go_wp2
    go_ret
    exact ⟨rfl, rfl⟩
theorem ivlLength_any (w : World) (a b : Int) (ha : -100000 ≤ a ∧ a ≤ 100000) (hb : -100000 ≤ b ∧ b ≤ 100000) : Calls Tryd.prog 108 #[.agg #[.int .i64 a, .int .i64 b]] w (Saw w (.int .i64 (b - a))) := by
  go_enter Tryd.func108, Tryd.ntmps108
  go_wp2
  go_ret
  exact ⟨rfl, (Below.refl _ _).alloc (Nat.le_refl _) _⟩
end Go.Proofs.YtiffjbpejlnndaaDoor
namespace Go.Proofs.YtiffjbpejlnndaaDoor
open Go.RowKit

def Small (l : List Rng) : Prop := ∀ p ∈ l, (-1000 ≤ p.1 ∧ p.1 ≤ 1000) ∧ (-1000 ≤ p.2 ∧ p.2 ≤ 1000)
theorem Small.at_ {l : List Rng} (h : Small l) {k : Nat} {p : Rng} (hk : l[k]? = some p) : (-1000 ≤ p.1 ∧ p.1 ≤ 1000) ∧ (-1000 ≤ p.2 ∧ p.2 ≤ 1000) := h p (List.mem_of_getElem? hk)
theorem lenR_snoc (l : List Rng) (k : Nat) (p : Rng) (h : l[k]? = some p) : lenR (l.take (k + 1)) = lenR (l.take k) + (p.2 - p.1) := by
  have app : ∀ a b : List Rng, lenR (a ++ b) = lenR a + lenR b := by
    intro a b
    induction a with
    | nil => show lenR b = 0 + lenR b; omega
    | cons x a ih => show (x.2 - x.1) + lenR (a ++ b) = (x.2 - x.1) + lenR a + lenR b; rw [ih]; omega
  rw [List.take_add_one, h, app]
  show lenR (l.take k) + ((p.2 - p.1) + 0) = _
  omega
theorem lenR_small (l : List Rng) (hs : Small l) : ∀ k : Nat, -2000 * (k : Int) ≤ lenR (l.take k) ∧ lenR (l.take k) ≤ 2000 * (k : Int)
  | 0 => ⟨by show _ ≤ (0 : Int); omega, by show (0 : Int) ≤ _; omega⟩
  | k + 1 => by
    have ih := lenR_small l hs k
    cases h : l[k]? with
    | none =>
      have : l.take (k + 1) = l.take k := by rw [List.take_add_one, h]; simp
      rw [this]
      omega
    | some p =>
      rw [lenR_snoc l k p h]
      have := hs.at_ h
      omega
set_option maxRecDepth 100000 in
theorem isLength_any (w : World) (B b : Nat) (v : Value) (l : List Rng) (h : IS w B b v l) (hn : l.length ≤ 1000) (hs : Small l) :
    Calls Tryd.prog 89 #[.pointer (some ⟨b, 0, none⟩)] w (Saw w (.int .i64 (lenR l))) := by
  obtain ⟨A, c, rfl⟩ := h.form
  have c0 : w.cell? ⟨b, 0, none⟩ = some (.slice A l.length c) := h.2.1.cell 0
  have H := Lib.hid h
  have HS := Lib.hid hs
  obtain ⟨n, hnn⟩ : ∃ n, l.length = n := ⟨_, rfl⟩
  rw [hnn] at c0 hn
  have Hn := Lib.hid hnn
  clear h hs hnn
  go_enter Tryd.func89, Tryd.ntmps89
  go_wp2
  go_loopw [3, 11] (fun s3 s11 wr => ∃ k : Nat, k ≤ n ∧ s11 = .int .i64 (k : Int) ∧ s3 = .int .i64 (lenR (l.take k)) ∧ Below w.heap.size w wr) (fun _ s11 _ => n - (intOf s11).toNat)
  case atStart => exact ⟨0, Nat.zero_le _, rfl, rfl, Below.refl _ _⟩
  case round =>
    obtain ⟨k, hk, rfl, rfl, hb⟩ := hrel
    obtain ⟨b1, b2⟩ := lenR_small l HS.out k
    obtain ⟨s, hsk⟩ : ∃ s, lenR (l.take k) = s := ⟨_, rfl⟩
    have Hsk := Lib.hid hsk
    rw [hsk] at b1 b2 ⊢
    clear hsk
    by_cases hlt : k < n
    · obtain ⟨p, hp⟩ : ∃ p, l[k]? = some p := ⟨l[k]'(by rw [Hn.out]; exact hlt), List.getElem?_eq_getElem _⟩
      obtain ⟨g, rfl, hg, d1, d2⟩ := H.out.cells hp
      have e1 := (hb.cell (p := ⟨g, k * 2, none⟩) hg).trans d1
      have e2 := (hb.cell (p := ⟨g, k * 2 + 1, none⟩) hg).trans d2
      have hsm := HS.out.at_ hp
      have Hst := Lib.hid (lenR_snoc l k p hp)
      have HB := Lib.hid hb
      clear d1 d2 hp hb
      go_wp2_with (go_at_call 108; go_fit (ivlLength_any _ p.1 p.2 (by omega) (by omega)); rintro e w2 ⟨rfl, hb2⟩; have HB2 := Lib.hid (below_tr (below_al HB.out (Nat.le_refl _)) (Nat.le_refl _) hb2); clear hb2)
      go_roundw
      case rel => exact ⟨k + 1, by omega, rfl, by rw [Hst.out, Hsk.out], HB2.out⟩
      case measure =>
        simp [intOf]
        omega
    · have hkn : k = n := by omega
      subst hkn
      have HB := Lib.hid hb
      clear hb
      have hfull : lenR l = s := by rw [← Hsk.out, List.take_of_length_le (by rw [Hn.out]; exact Nat.le_refl _)]
      have HF := Lib.hid hfull
      clear hfull
      go_wp2
      go_ret
      exact ⟨retI (by rw [HF.out]), HB.out⟩
end Go.Proofs.YtiffjbpejlnndaaDoor
namespace Go.Proofs.YtiffjbpejlnndaaDoor
open Go.RowKit

theorem ivlContains_any (w : World) (a b u : Int) {x : Bool} (hx : (decide (a ≤ u) && decide (u < b)) = x) : Calls Tryd.prog 110 #[.agg #[.int .i64 a, .int .i64 b], .int .i64 u] w (Saw w (.bool x)) := by
  have Hx := Lib.hid hx
  clear hx
  by_cases h1 : a ≤ u
  · by_cases h2 : u < b
    · have e : Hid (x = true) := by rw [← Hx.out, decide_eq_true h1, decide_eq_true h2]; rfl
      go_enter Tryd.func110, Tryd.ntmps110
      go_wp2
      go_ret
      exact ⟨congrArg Ending.returned (congrArg Value.bool e.out.symm), (Below.refl _ _).alloc (Nat.le_refl _) _⟩
    · have e : Hid (x = false) := by rw [← Hx.out, decide_eq_true h1, decide_eq_false h2]; rfl
      go_enter Tryd.func110, Tryd.ntmps110
      go_wp2
      go_ret
      exact ⟨congrArg Ending.returned (congrArg Value.bool e.out.symm), (Below.refl _ _).alloc (Nat.le_refl _) _⟩
  · have e : Hid (x = false) := by rw [← Hx.out, decide_eq_false h1]; rfl
    go_enter Tryd.func110, Tryd.ntmps110
    go_wp2
    go_ret
    exact ⟨congrArg Ending.returned (congrArg Value.bool e.out.symm), (Below.refl _ _).alloc (Nat.le_refl _) _⟩
theorem memB_none {l : List Rng} {u : Int} (h : ∀ (k : Nat) (p : Rng), k < l.length → l[k]? = some p → (decide (p.1 ≤ u) && decide (u < p.2)) = false) : memB l u = false := by
  unfold memB
  rw [List.any_eq_false]
  intro p hp
  obtain ⟨k, hk⟩ := List.getElem?_of_mem hp
  have hl : k < l.length := by
    rcases Nat.lt_or_ge k l.length with h2 | h2
    · exact h2
    · rw [List.getElem?_eq_none h2] at hk
      cases hk
  rw [h k p hl hk]
  decide
theorem memB_some {l : List Rng} {u : Int} {k : Nat} {p : Rng} (hk : l[k]? = some p) (h : (decide (p.1 ≤ u) && decide (u < p.2)) = true) : memB l u = true := by
  unfold memB
  rw [List.any_eq_true]
  exact ⟨p, List.mem_of_getElem? hk, h⟩
theorem eq_nil (W : World) (a : Addr) (n c : Nat) : (binOp .eql 106 (.slice (some a) n c) (.slice none 0 0)).run Tryd.prog W = .ok (.bool false) W := by kernel_rfl
theorem eq_nil0 (W : World) : (binOp .eql 106 (.slice none 0 0) (.slice none 0 0)).run Tryd.prog W = .ok (.bool true) W := by kernel_rfl
set_option maxRecDepth 100000 in
theorem isContains_nil (w : World) (b : Nat) (u : Int) (c0 : w.cell? ⟨b, 0, none⟩ = some (.slice none 0 0)) : Calls Tryd.prog 92 #[.pointer (some ⟨b, 0, none⟩), .int .i64 u] w (Saw w (.bool false)) := by
  have hq := eq_nil0 w
  go_enter Tryd.func92, Tryd.ntmps92
  go_wp2
  go_ret
  exact ⟨rfl, Below.refl _ _⟩
set_option maxRecDepth 100000 in
theorem isContains_any (w : World) (B b : Nat) (v : Value) (l : List Rng) (u : Int) (h : IS w B b v l) (hn : l.length ≤ 1000) {x : Bool} (hx : memB l u = x) :
    Calls Tryd.prog 92 #[.pointer (some ⟨b, 0, none⟩), .int .i64 u] w (Saw w (.bool x)) := by
  by_cases hl : l = []
  · have hv := h.2.2.2.2 hl
    subst hv
    subst hl
    have : x = false := by rw [← hx]; rfl
    subst this
    exact isContains_nil w b u (h.2.1.cell 0)
  · obtain ⟨A, c, rfl⟩ := h.form
    have hpos : 0 < l.length := List.length_pos_iff.2 hl
    obtain ⟨g, rfl, hg, _, _⟩ := h.cells (k := 0) (p := l[0]) (List.getElem?_eq_getElem hpos)
    have c0 : w.cell? ⟨b, 0, none⟩ = some (.slice (some ⟨g, 0, none⟩) l.length c) := h.2.1.cell 0
    have H := Lib.hid h
    have Hx := Lib.hid hx
    have hbl := World.block_lt_of_cell? w _ c0
    obtain ⟨n, hnn⟩ : ∃ n, l.length = n := ⟨_, rfl⟩
    rw [hnn] at c0 hn hpos
    have Hn := Lib.hid hnn
    have hq := eq_nil w ⟨g, 0, none⟩ n c
    clear h hx hnn hl
    go_enter Tryd.func92, Tryd.ntmps92
    go_wp2
    go_loopw [5] (fun s5 wr => ∃ k : Nat, k ≤ n ∧ s5 = .int .i64 (k : Int) ∧ Hid (∀ (i : Nat) (p : Rng), i < k → l[i]? = some p → (decide (p.1 ≤ u) && decide (u < p.2)) = false) ∧ Below w.heap.size w wr) (fun s5 _ => n - (intOf s5).toNat)
    case atStart => exact ⟨0, Nat.zero_le _, rfl, (fun i p hi => absurd hi (Nat.not_lt_zero i)), Below.refl _ _⟩
    case round =>
      obtain ⟨k, hk, rfl, hno, hb⟩ := hrel
      have c1 := (hb.cell (p := ⟨b, 0, none⟩) hbl).trans c0
      by_cases hlt : k < n
      · obtain ⟨p, hp⟩ : ∃ p, l[k]? = some p := ⟨l[k]'(by rw [Hn.out]; exact hlt), List.getElem?_eq_getElem _⟩
        obtain ⟨g', eg, hg', d1, d2⟩ := H.out.cells hp
        obtain rfl : g = g' := by injection eg with e; injection e
        have e1 := (hb.cell (p := ⟨g, k * 2, none⟩) hg).trans d1
        have e2 := (hb.cell (p := ⟨g, k * 2 + 1, none⟩) hg).trans d2
        have HB := Lib.hid hb
        have Hp := Lib.hid hp
        obtain ⟨y, hy⟩ : ∃ y, (decide (p.1 ≤ u) && decide (u < p.2)) = y := ⟨_, rfl⟩
        have Hy := Lib.hid hy
        clear d1 d2 hp hb hy eg
        cases y
        · go_wp2_with (go_at_call 110; go_fit (ivlContains_any _ p.1 p.2 u Hy.out); rintro e w2 ⟨rfl, hb2⟩; have HB2 := Lib.hid (below_tr HB.out (Nat.le_refl _) hb2); clear hb2)
          go_roundw
          case rel =>
            refine ⟨k + 1, by omega, rfl, (fun i q hi hq => ?_), HB2.out⟩
            by_cases e : i = k
            · subst e
              rw [Hp.out] at hq
              cases hq
              exact Hy.out
            · exact hno.out i q (by omega) hq
          case measure =>
            simp [intOf]
            omega
        · have Hm := Lib.hid (memB_some Hp.out Hy.out)
          go_wp2_with (go_at_call 110; go_fit (ivlContains_any _ p.1 p.2 u Hy.out); rintro e w2 ⟨rfl, hb2⟩; have HB2 := Lib.hid (below_tr HB.out (Nat.le_refl _) hb2); clear hb2)
          go_ret
          exact ⟨congrArg Ending.returned (congrArg Value.bool (Hm.out.symm.trans Hx.out)), HB2.out⟩
      · have hkn : k = n := by omega
        subst hkn
        have Hm := Lib.hid (memB_none (l := l) (u := u) fun i p hi hp => hno.out i p (by rw [← Hn.out]; exact hi) hp)
        have HB := Lib.hid hb
        clear hb
        go_wp2
        go_ret
        exact ⟨congrArg Ending.returned (congrArg Value.bool (Hm.out.symm.trans Hx.out)), HB.out⟩
end Go.Proofs.YtiffjbpejlnndaaDoor
namespace Go.Proofs.YtiffjbpejlnndaaDoor
open Go.RowKit

/-- Only block b, v's row and new blocks have changed. -/
structure Chg (w w' : World) (b : Nat) (v : Value) : Prop where
  os : w'.os = w.os
  tape : w'.tape = w.tape
  output : w'.output = w.output
  size : w.heap.size ≤ w'.heap.size
  block : ∀ g, g < w.heap.size → g ≠ b → v.ownBlock ≠ some g → w'.heap[g]? = w.heap[g]?
def AddPost (w : World) (B b : Nat) (v : Value) (l : List Rng) (e : Ending) (w' : World) : Prop :=
  e = .returned (.tuple #[]) ∧ ∃ v', IS w' B b v' l ∧ Chg w w' b v ∧ (v'.ownBlock = v.ownBlock ∨ ∃ g, v'.ownBlock = some g ∧ w.heap.size ≤ g)
theorem info109b : (Tryd.prog.info? 109).map (fun i => (i.zero, i.size, i.bytes)) = some (some (.agg #[.int .i64 0, .int .i64 0]), 2, 16) := by kernel_rfl
abbrev P109 (p : Rng) : Obj := .cells #[.int .i64 p.1, .int .i64 p.2] 109
theorem add_step {w3 w5 : World} {B b n m : Nat} {v0 v5 : Value} {xs ys : List Value} {o : Obj} (q1 : Blk w3 b 142 #[v0, .bool false]) (q3 : w3.ownsRow B 109 2 v0 n xs) (hgrow : (w3.alloc o).grownBy w5 v0.ownBlock) (hown : w5.ownsRow B 109 2 v5 m ys) :
    w5.cell? ⟨b, 0, none⟩ = some v0 ∧ w5.frozen? ⟨b, 0, none⟩ = false ∧ (Blk (w5.setCell ⟨b, 0, none⟩ v5) b 142 #[v5, .bool false] ∧ (w5.setCell ⟨b, 0, none⟩ v5).ownsRow B 109 2 v5 m ys) := by
  have n1 := own_ne q3 q1 (by decide)
  have q5 : Blk w5 b 142 #[v0, .bool false] := (q1.alloc o).grown hgrow (fun e => n1 e.symm)
  exact ⟨q5.cell 0, q5.frozen 0, by simpa using q5.set_ 0 v5, own_far hown q5 (by decide) 0 v5⟩
theorem chg_end {w w3 w5 : World} {b r : Nat} {vz : Value} {o : Obj} (h : Chg w w3 b vz) (hg : (w3.alloc o).grownBy w5 (some r)) (hr : w.heap.size ≤ r) (v : Value) : Chg w (w5.setCell ⟨b, 0, none⟩ v) b vz := by
  have s1 : (w3.alloc o).heap.size = w3.heap.size + 1 := by simp
  have k : Below w.heap.size w3 w5 := ((Below.refl _ w3).alloc h.size o).grown hg (by have := h.size; omega) (fun j hj => by cases hj; exact hr)
  have e := h.size
  have e2 := k.size
  refine ⟨k.os.trans h.os, k.tape.trans h.tape, k.output.trans h.output, by simp [World.setCell]; omega, fun g hgl hne hv => ?_⟩
  have a := Below.heap_setCell w5 ⟨b, 0, none⟩ v g hne
  exact a.trans ((k.block g hgl).trans (h.block g hgl hne hv))
theorem make0 (W : World) : (Instr.makeSlice 106 (.int .i64 0) (.int .i64 0)).run Tryd.prog W = .ok (.slice (some ⟨W.heap.size, 0, none⟩) 0 0) (W.alloc (.cells #[] 109)) := by kernel_rfl
set_option maxRecDepth 100000 in
theorem add_nil (w : World) (B b : Nat) (p : Rng) (h : IS w B b (.slice none 0 0) []) (hBw : B ≤ w.heap.size) :
    Calls Tryd.prog 106 #[.pointer (some ⟨b, 0, none⟩), .agg #[.int .i64 p.1, .int .i64 p.2]] w (AddPost w B b (.slice none 0 0) [p]) := by
  have c0 : w.cell? ⟨b, 0, none⟩ = some (.slice none 0 0) := h.2.1.cell 0
  have f0 := h.2.1.frozen 0
  have hlt := h.2.1.lt
  have hmk := fun W => make0 W
  have hq := fun W => eq_nil0 W
  obtain ⟨i0, hi0, hz0, hz1, hz2⟩ := info_parts info109b
  have H := Lib.hid h
  clear h
  go_enter Tryd.func106, Tryd.ntmps106
  go_upto_region 3 with fail
  have facts : Blk (((w.setCell ⟨b, 0, none⟩ (.slice (some ⟨w.heap.size + 1, 0, none⟩) 0 0)).alloc (P109 p)).alloc (.cells #[] 109)) b 142 #[.slice (some ⟨w.heap.size + 1, 0, none⟩) 0 0, .bool false]
      ∧ Blk (((w.setCell ⟨b, 0, none⟩ (.slice (some ⟨w.heap.size + 1, 0, none⟩) 0 0)).alloc (P109 p)).alloc (.cells #[] 109)) w.heap.size 109 #[.int .i64 p.1, .int .i64 p.2]
      ∧ (((w.setCell ⟨b, 0, none⟩ (.slice (some ⟨w.heap.size + 1, 0, none⟩) 0 0)).alloc (P109 p)).alloc (.cells #[] 109)).ownsRow B 109 2 (.slice (some ⟨w.heap.size + 1, 0, none⟩) 0 0) 0 (rowI [])
      ∧ Chg w (((w.setCell ⟨b, 0, none⟩ (.slice (some ⟨w.heap.size + 1, 0, none⟩) 0 0)).alloc (P109 p)).alloc (.cells #[] 109)) b (.slice none 0 0) := by
    have s1 : (w.setCell ⟨b, 0, none⟩ (.slice (some ⟨w.heap.size + 1, 0, none⟩) 0 0)).heap.size = w.heap.size := by simp [World.setCell]
    have a1 : Blk (w.setCell ⟨b, 0, none⟩ (.slice (some ⟨w.heap.size + 1, 0, none⟩) 0 0)) b 142 #[.slice (some ⟨w.heap.size + 1, 0, none⟩) 0 0, .bool false] := by simpa using H.out.2.1.set_ 0 (.slice (some ⟨w.heap.size + 1, 0, none⟩) 0 0)
    have a2 := Blk.new (w.setCell ⟨b, 0, none⟩ (.slice (some ⟨w.heap.size + 1, 0, none⟩) 0 0)) 109 #[.int .i64 p.1, .int .i64 p.2]
    rw [s1] at a2
    have a3 := Blk.new ((w.setCell ⟨b, 0, none⟩ (.slice (some ⟨w.heap.size + 1, 0, none⟩) 0 0)).alloc (P109 p)) 109 #[]
    have s2 : ((w.setCell ⟨b, 0, none⟩ (.slice (some ⟨w.heap.size + 1, 0, none⟩) 0 0)).alloc (P109 p)).heap.size = w.heap.size + 1 := by simp [s1]
    rw [s2] at a3
    refine ⟨(a1.alloc _).alloc _, a2.alloc _, ⟨rfl, .inr ⟨w.heap.size + 1, 0, #[], rfl, by omega, a3, Nat.le_refl _, Nat.zero_le _, rfl, rfl⟩⟩, ?_⟩
    have hb : w.grownBy (((w.setCell ⟨b, 0, none⟩ (.slice (some ⟨w.heap.size + 1, 0, none⟩) 0 0)).alloc (P109 p)).alloc (.cells #[] 109)) (some b) := only_alloc (only_alloc (only_setCell (only_refl w (some b)) (.inl rfl) _) _) _
    exact ⟨hb.os, hb.tape, hb.output, hb.size, fun g hg hne _ => hb.block g hg (by simp; exact hne)⟩
  generalize (((w.setCell ⟨b, 0, none⟩ (.slice (some ⟨w.heap.size + 1, 0, none⟩) 0 0)).alloc (P109 p)).alloc (.cells #[] 109)) = w3 at facts ⊢
  obtain ⟨q1, q2, q3, q4⟩ := facts
  have d0 : w3.cell? ⟨b, 0, none⟩ = some (.slice (some ⟨w.heap.size + 1, 0, none⟩) 0 0) := q1.cell 0
  have d1 : w3.cell? ⟨w.heap.size, 0, none⟩ = some (.int .i64 p.1) := q2.cell 0
  have d2 : w3.cell? ⟨w.heap.size, 1, none⟩ = some (.int .i64 p.2) := q2.cell 1
  have Q1 := Lib.hid q1
  have Q3 := Lib.hid q3
  have Q4 := Lib.hid q4
  have la : ∀ o : Obj, (w3.alloc o).cell? ⟨b, 0, none⟩ = some (.slice (some ⟨w.heap.size + 1, 0, none⟩) 0 0) := fun o => (Q1.out.alloc o).cell 0
  clear q1 q2 q3 q4 hmk hq c0 f0
  go_region_law (first
    | (refine step_append_lies _ (by rfl) (.tmp 21) (.tmp 23) 106 (by rfl) B 109 i0 _ 2 16 Tryd.underlying106 hi0 hz0 hz1 hz2 rfl (by omega) (.slice (some ⟨w.heap.size + 1, 0, none⟩) 0 0) 0 (rowI []) (by rfl) (by first | exact Q3.out.alloc _ | exact World.ownsRow.drew (Q3.out.alloc _)) ⟨w3.heap.size, 0, none⟩ 1 1 [.int .i64 p.1, .int .i64 p.2] (by rfl) (by rfl) (by first | exact cells_new w3 [.int .i64 p.1, .int .i64 p.2] 109 _ rfl) (by intro u hu; simp at hu; rcases hu with rfl | rfl <;> rfl) (by omega) (by unfold maxLen; omega) (by omega) (by have := Q4.out.size; simp; omega) w3.heap.size.succ (by simp) ?_; intro gg cap w5 hown5 hgrow hat hltg; obtain ⟨c5, f5, hend⟩ := add_step Q1.out Q3.out (by first | exact hgrow | exact only_trans (only_drew (only_refl _ _)) hgrow) hown5; have HE := Lib.hid hend; have HA := Lib.hid hat; have HG : Hid ((w3.alloc (P109 p)).grownBy w5 (some (w.heap.size + 1))) := (by first | exact hgrow | exact only_trans (only_drew (only_refl _ _)) hgrow); clear hend hat))
  all_goals go_end0
  all_goals refine ⟨rfl, _, ⟨H.out.1, HE.out.1, HE.out.2, ⟨(fun e => by injection e with e1; cases e1), (fun e => by cases e)⟩⟩, chg_end Q4.out HG.out (Nat.le_succ _) _, .inr ⟨gg, rfl, ?_⟩⟩
  all_goals
    have := Q4.out.size
    rcases HA.out with h | h
    · have : w.heap.size + 1 = gg := by simpa [Value.ownBlock] using h
      omega
    · omega
end Go.Proofs.YtiffjbpejlnndaaDoor
namespace Go.Proofs.YtiffjbpejlnndaaDoor
open Go.RowKit

theorem IS.below {w w' : World} {B b : Nat} {v : Value} {l : List Rng} (h : IS w B b v l) (hb : Below w.heap.size w w') : IS w' B b v l :=
  ⟨h.1, h.2.1.below hb h.2.1.lt, own_below h.2.2.1 hb, h.2.2.2⟩
/-- The first k lie before it. -/
def Past (l : List Rng) (v : Rng) (k : Nat) : Prop := ∀ (i : Nat) (p : Rng), i < k → l[i]? = some p → ¬ v.2 < p.1 ∧ ¬ v.2 = p.1 ∧ ¬ v.1 ≤ p.2
theorem insR_past (v : Rng) : ∀ (l : List Rng) (k : Nat), k ≤ l.length → Past l v k → insR v l = l.take k ++ insR v (l.drop k)
  | l, 0, _, _ => by simp
  | [], k + 1, h, _ => by simp at h
  | p :: l, k + 1, h, hp => by
    obtain ⟨h1, h2, h3⟩ := hp 0 p (by omega) rfl
    have ih := insR_past v l k (by simpa using h) fun i q hi hq => hp (i + 1) q (by omega) (by simpa using hq)
    rw [insR, if_neg h1, if_neg h2, if_neg h3, ih]
    rfl
theorem drop_at {l : List Rng} {k : Nat} {p : Rng} (h : l[k]? = some p) : l.drop k = p :: l.drop (k + 1) := by
  have hl : k < l.length := by
    rcases Nat.lt_or_ge k l.length with h2 | h2
    · exact h2
    · rw [List.getElem?_eq_none h2] at h
      cases h
  rw [List.drop_eq_getElem_cons hl]
  rw [List.getElem?_eq_getElem hl] at h
  injection h with h
  rw [h]
theorem set_at {l : List Rng} {k : Nat} {p q : Rng} (h : l[k]? = some p) : l.set k q = l.take k ++ q :: l.drop (k + 1) := by
  have hl : k < l.length := by
    rcases Nat.lt_or_ge k l.length with h2 | h2
    · exact h2
    · rw [List.getElem?_eq_none h2] at h
      cases h
  rw [List.set_eq_take_append_cons_drop, if_pos hl]
theorem insR_insert {v p : Rng} {l : List Rng} {k : Nat} (hk : l[k]? = some p) (hp : Past l v k) (h : v.2 < p.1) : insR v l = l.take k ++ v :: l.drop k := by
  rw [insR_past v l k (by rcases Nat.lt_or_ge k l.length with h2 | h2; exact Nat.le_of_lt h2; rw [List.getElem?_eq_none h2] at hk; cases hk) hp, drop_at hk, insR, if_pos h]
theorem insR_left {v p : Rng} {l : List Rng} {k : Nat} (hk : l[k]? = some p) (hp : Past l v k) (h : v.2 = p.1) : insR v l = l.set k (v.1, p.2) := by
  rw [insR_past v l k (by rcases Nat.lt_or_ge k l.length with h2 | h2; exact Nat.le_of_lt h2; rw [List.getElem?_eq_none h2] at hk; cases hk) hp, drop_at hk, insR, if_neg (by omega), if_pos h, set_at hk]
theorem insR_merge {v p : Rng} {l : List Rng} {k : Nat} (hk : l[k]? = some p) (hp : Past l v k) (h1 : ¬ v.2 < p.1) (h2 : ¬ v.2 = p.1) (h3 : v.1 ≤ p.2) : insR v l = l.set k (min p.1 v.1, max p.2 v.2) := by
  rw [insR_past v l k (by rcases Nat.lt_or_ge k l.length with h2 | h2; exact Nat.le_of_lt h2; rw [List.getElem?_eq_none h2] at hk; cases hk) hp, drop_at hk, insR, if_neg h1, if_neg h2, if_pos h3, set_at hk]
theorem insR_end {v : Rng} {l : List Rng} (hp : Past l v l.length) : insR v l = l ++ [v] := by
  rw [insR_past v l l.length (Nat.le_refl _) hp, List.take_length, List.drop_length]
  rfl
end Go.Proofs.YtiffjbpejlnndaaDoor
namespace Go.Proofs.YtiffjbpejlnndaaDoor
open Go.RowKit

theorem rowI_set : ∀ (l : List Rng) (k : Nat) (q : Rng), rowI (l.set k q) = ((rowI l).set (k * 2) (.int .i64 q.1)).set (k * 2 + 1) (.int .i64 q.2)
  | [], k, q => by simp [rowI]
  | r :: l, 0, q => rfl
  | r :: l, k + 1, q => by
    have ih := rowI_set l k q
    have e : ∀ (a : Rng) (m : List Rng), rowI (a :: m) = .int .i64 a.1 :: .int .i64 a.2 :: rowI m := fun _ _ => rfl
    rw [List.set_cons_succ, e, e, ih, show (k + 1) * 2 = k * 2 + 1 + 1 by omega]
    rfl
/-- Both cells of a range are written. -/
theorem is_set2 {w : World} {B b g c : Nat} {l : List Rng} (h : IS w B b (.slice (some ⟨g, 0, none⟩) l.length c) l) (k : Nat) (q : Rng) :
    IS ((w.setCell ⟨g, k * 2, none⟩ (.int .i64 q.1)).setCell ⟨g, k * 2 + 1, none⟩ (.int .i64 q.2)) B b (.slice (some ⟨g, 0, none⟩) l.length c) (l.set k q)
      ∧ w.grownBy ((w.setCell ⟨g, k * 2, none⟩ (.int .i64 q.1)).setCell ⟨g, k * 2 + 1, none⟩ (.int .i64 q.2)) (some g) := by
  obtain ⟨h1, h2, h3, h4⟩ := h
  have n1 := own_ne h3 h2 (by decide)
  have n2 : b ≠ g := fun e => n1 (by rw [e]; rfl)
  obtain ⟨s1, t1⟩ := h3.stored (k * 2) (.int .i64 q.1)
  obtain ⟨s2, t2⟩ := s1.stored (k * 2 + 1) (.int .i64 q.2)
  refine ⟨⟨h1, (h2.far (p := ⟨g, k * 2, none⟩) n2 _).far (p := ⟨g, k * 2 + 1, none⟩) n2 _, ?_, ⟨(fun e => by injection e with e1; cases e1), fun e => ?_⟩⟩, only_trans t1 t2⟩
  · rw [rowI_set, List.length_set]
    exact s2
  · have : l = [] := by
      have := congrArg List.length e
      rw [List.length_set] at this
      exact List.eq_nil_of_length_eq_zero this
    have := h4.2 this
    injection this with e1
    cases e1
/-- The first cell alone is written. -/
theorem is_set1 {w : World} {B b g c : Nat} {l : List Rng} (h : IS w B b (.slice (some ⟨g, 0, none⟩) l.length c) l) {k : Nat} {q : Rng} (hk : l[k]? = some q) (x : Int) :
    IS (w.setCell ⟨g, k * 2, none⟩ (.int .i64 x)) B b (.slice (some ⟨g, 0, none⟩) l.length c) (l.set k (x, q.2)) ∧ w.grownBy (w.setCell ⟨g, k * 2, none⟩ (.int .i64 x)) (some g) := by
  obtain ⟨h1, h2, h3, h4⟩ := h
  have n1 := own_ne h3 h2 (by decide)
  have n2 : b ≠ g := fun e => n1 (by rw [e]; rfl)
  obtain ⟨s1, t1⟩ := h3.stored (k * 2) (.int .i64 x)
  refine ⟨⟨h1, h2.far (p := ⟨g, k * 2, none⟩) n2 _, ?_, ⟨(fun e => by injection e with e1; cases e1), fun e => ?_⟩⟩, t1⟩
  · rw [rowI_set, List.length_set]
    have e2 := (rowI_at l k q hk).2
    have : ((rowI l).set (k * 2) (.int .i64 x)).set (k * 2 + 1) (.int .i64 q.2) = (rowI l).set (k * 2) (.int .i64 x) := by
      apply List.ext_getElem?
      intro i
      by_cases hi : k * 2 + 1 = i
      · subst hi
        have hl : k * 2 + 1 < (rowI l).length := by
          rcases Nat.lt_or_ge (k * 2 + 1) (rowI l).length with h | h
          · exact h
          · rw [List.getElem?_eq_none h] at e2
            cases e2
        rw [List.getElem?_set_self (by simpa using hl), List.getElem?_set_ne (by omega), e2]
      · rw [List.getElem?_set_ne hi]
    show (w.setCell _ _).ownsRow B 109 2 _ l.length (((rowI l).set (k * 2) (.int .i64 x)).set (k * 2 + 1) (.int .i64 q.2))
    rw [this]
    exact s1
  · have : l = [] := by
      have := congrArg List.length e
      rw [List.length_set] at this
      exact List.eq_nil_of_length_eq_zero this
    have := h4.2 this
    injection this with e1
    cases e1
end Go.Proofs.YtiffjbpejlnndaaDoor
namespace Go.Proofs.YtiffjbpejlnndaaDoor
open Go.RowKit

theorem chg_of {w wr w2 w3 : World} {g : Nat} (hb : Below w.heap.size w wr) (hg : wr.grownBy w2 (some g)) (b n : Nat) {c : Nat} (h3 : w2.grownBy w3 none) : Chg w w3 b (.slice (some ⟨g, 0, none⟩) n c) := by
  have e1 := hb.size
  have e2 := hg.size
  have e3 := h3.size
  refine ⟨h3.os.trans (hg.os.trans hb.os), h3.tape.trans (hg.tape.trans hb.tape), h3.output.trans (hg.output.trans hb.output), by omega, fun i hi _ hv => ?_⟩
  exact (h3.block i (by omega) (by simp)).trans ((hg.block i (by omega) (fun e => hv (by rw [e]; rfl))).trans (hb.block i hi))
theorem chg_app {w wr w5 : World} {o : Obj} {b g n c : Nat} (hb : Below w.heap.size w wr) (hg : (wr.alloc o).grownBy w5 (some g)) (v : Value) : Chg w (w5.setCell ⟨b, 0, none⟩ v) b (.slice (some ⟨g, 0, none⟩) n c) := by
  have e1 := hb.size
  have e2 := hg.size
  have s1 : (wr.alloc o).heap.size = wr.heap.size + 1 := by simp
  refine ⟨hg.os.trans hb.os, hg.tape.trans hb.tape, hg.output.trans hb.output, by simp [World.setCell]; omega, fun i hi hne hv => ?_⟩
  exact (Below.heap_setCell w5 ⟨b, 0, none⟩ v i hne).trans ((hg.block i (by omega) (fun e => hv (by rw [e]; rfl))).trans ((Below.heap_alloc wr o i (by omega)).trans (hb.block i hi)))
theorem own_or {w wr : World} {g gg n m c cap : Nat} (hb : w.heap.size ≤ wr.heap.size) (h : (Value.slice (some ⟨g, 0, none⟩) n c).ownBlock = some gg ∨ gg = wr.heap.size.succ) :
    (Value.slice (some ⟨gg, 0, none⟩) m cap).ownBlock = (Value.slice (some ⟨g, 0, none⟩) n c).ownBlock ∨ ∃ x, (Value.slice (some ⟨gg, 0, none⟩) m cap).ownBlock = some x ∧ w.heap.size ≤ x := by
  rcases h with h | h
  · exact .inl h.symm
  · exact .inr ⟨gg, rfl, by omega⟩
theorem rowI_append (a b : List Rng) : rowI (a ++ b) = rowI a ++ rowI b := by simp [rowI]
theorem at_lt {l : List Rng} {k : Nat} {p : Rng} (h : l[k]? = some p) : k < l.length := by
  rcases Nat.lt_or_ge k l.length with h2 | h2
  · exact h2
  · rw [List.getElem?_eq_none h2] at h
    cases h
end Go.Proofs.YtiffjbpejlnndaaDoor
