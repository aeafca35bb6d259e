/-
  A range, a number, a set is added to an interval set. Conditions: as each theorem says.
-/
import Derived.Test.YtiffjbpejlnndaaDoorIvl9L
import Derived.Test.YtiffjbpejlnndaaDoorIvl9E
import Derived.Test.YtiffjbpejlnndaaDoorIvl9I
import Derived.Test.YtiffjbpejlnndaaDoorIvl9M
import Derived.Test.YtiffjbpejlnndaaDoorIvlP
namespace Go.Proofs.YtiffjbpejlnndaaDoor
open Go.RowKit

theorem first_near (p : Rng) : ∀ l : List Rng, ∃ k, Past l p k ∧ (k = l.length ∨ ∃ q, l[k]? = some q ∧ (p.2 < q.1 ∨ p.2 = q.1 ∨ p.1 ≤ q.2))
  | [] => ⟨0, (fun _ _ h => absurd h (Nat.not_lt_zero _)), .inl rfl⟩
  | q :: l => by
    by_cases h : p.2 < q.1 ∨ p.2 = q.1 ∨ p.1 ≤ q.2
    · exact ⟨0, (fun _ _ h => absurd h (Nat.not_lt_zero _)), .inr ⟨q, rfl, h⟩⟩
    · obtain ⟨k, h1, h2⟩ := first_near p l
      refine ⟨k + 1, fun i r hi hr => ?_, ?_⟩
      · cases i with
        | zero =>
          have : q = r := by simpa using hr
          subst this
          omega
        | succ i => exact h1 i r (by omega) (by simpa using hr)
      · rcases h2 with h2 | ⟨r, hr, h3⟩
        · exact .inl (by rw [h2]; rfl)
        · exact .inr ⟨r, by simpa using hr, h3⟩
theorem addIvl_any (w : World) (B b : Nat) (v : Value) (l : List Rng) (p : Rng) (h : IS w B b v l) (hBw : B ≤ w.heap.size) (hn : l.length ≤ 1000) (hg : Good l) (hnear : nearN p l ≤ 1) :
    Calls Tryd.prog 106 #[.pointer (some ⟨b, 0, none⟩), .agg #[.int .i64 p.1, .int .i64 p.2]] w (AddPost w B b v (insR p l)) := by
  by_cases hl : l = []
  · have hv := h.2.2.2.2 hl
    subst hv
    subst hl
    exact add_nil w B b p h hBw
  · obtain ⟨A, c, rfl⟩ := h.form
    have hpos : 0 < l.length := List.length_pos_iff.2 hl
    obtain ⟨g, rfl, _, _, _⟩ := h.cells (k := 0) (p := l[0]) (List.getElem?_eq_getElem hpos)
    obtain ⟨k, hp, hk | ⟨q, hq, hh⟩⟩ := first_near p l
    · have hp' := hp
      rw [hk] at hp'
      rw [insR_end hp']
      exact add_end w B b g c k l p h hBw hn hk hp
    · by_cases x1 : p.2 < q.1
      · rw [insR_insert hq hp x1]
        exact add_insert w B b g c k l p q h hBw hn hq hp x1
      · by_cases x2 : p.2 = q.1
        · rw [insR_left hq hp x2]
          exact add_left w B b g c k l p q h hBw hn hq hp x1 x2
        · have x3 : p.1 ≤ q.2 := by omega
          rw [insR_merge hq hp x1 x2 x3]
          refine add_merge w B b g c k l p q h hBw hn hq hp x1 x2 x3 fun r hr => ?_
          have hnp : near p q = true := by
            unfold near
            rw [decide_eq_true (show q.1 ≤ p.2 by omega), decide_eq_true x3]
            rfl
          obtain ⟨a1, a2, a3⟩ := near_next hg hnear hq hr hnp x3
          exact ⟨by omega, a3⟩
end Go.Proofs.YtiffjbpejlnndaaDoor
namespace Go.Proofs.YtiffjbpejlnndaaDoor
open Go.RowKit

/-- The set of block b has grown from value v to value v' with the ranges l; nothing else has changed. -/
def GrowV (w : World) (B b : Nat) (v v' : Value) (l : List Rng) (w' : World) : Prop :=
  IS w' B b v' l ∧ Chg w w' b v ∧ (v'.ownBlock = v.ownBlock ∨ ∃ g, v'.ownBlock = some g ∧ w.heap.size ≤ g)
theorem Chg.refl (w : World) (b : Nat) (v : Value) : Chg w w b v := ⟨rfl, rfl, rfl, Nat.le_refl _, fun _ _ _ _ => rfl⟩
theorem Chg.pre {w w1 w2 : World} {b : Nat} {v : Value} (hb : Below w.heap.size w w1) (h : Chg w1 w2 b v) : Chg w w2 b v :=
  ⟨h.os.trans hb.os, h.tape.trans hb.tape, h.output.trans hb.output, Nat.le_trans hb.size h.size, fun g hg hne hv => (h.block g (Nat.lt_of_lt_of_le hg hb.size) hne hv).trans (hb.block g hg)⟩
theorem Chg.post {w w1 w2 : World} {b : Nat} {v : Value} (h : Chg w w1 b v) (hb : Below w1.heap.size w1 w2) : Chg w w2 b v :=
  ⟨hb.os.trans h.os, hb.tape.trans h.tape, hb.output.trans h.output, Nat.le_trans h.size hb.size, fun g hg hne hv => (hb.block g (Nat.lt_of_lt_of_le hg h.size)).trans (h.block g hg hne hv)⟩
theorem Chg.trans {w w1 w2 : World} {b : Nat} {v v1 : Value} (h : Chg w w1 b v) (k : Chg w1 w2 b v1) (hv : v1.ownBlock = v.ownBlock ∨ ∃ g, v1.ownBlock = some g ∧ w.heap.size ≤ g) : Chg w w2 b v :=
  ⟨k.os.trans h.os, k.tape.trans h.tape, k.output.trans h.output, Nat.le_trans h.size k.size, fun g hg hne hvg => (k.block g (Nat.lt_of_lt_of_le hg h.size) hne (by
    rcases hv with e | ⟨x, e, hx⟩
    · rw [e]; exact hvg
    · rw [e]
      intro e2
      injection e2 with e2
      omega)).trans (h.block g hg hne hvg)⟩
theorem GrowV.refl {w : World} {B b : Nat} {v : Value} {l : List Rng} (h : IS w B b v l) : GrowV w B b v v l w := ⟨h, Chg.refl _ _ _, .inl rfl⟩
theorem GrowV.trans {w w1 w2 : World} {B b : Nat} {v v1 v2 : Value} {l1 l2 : List Rng} (h : GrowV w B b v v1 l1 w1) (k : GrowV w1 B b v1 v2 l2 w2) : GrowV w B b v v2 l2 w2 := by
  refine ⟨k.1, h.2.1.trans k.2.1 h.2.2, ?_⟩
  rcases k.2.2 with e | ⟨x, e, hx⟩
  · rcases h.2.2 with e2 | ⟨y, e2, hy⟩
    · exact .inl (e.trans e2)
    · exact .inr ⟨y, e.trans e2, hy⟩
  · exact .inr ⟨x, e, Nat.le_trans h.2.1.size hx⟩
theorem GrowV.pre {w w1 w2 : World} {B b : Nat} {v v2 : Value} {l : List Rng} (hb : Below w.heap.size w w1) (k : GrowV w1 B b v v2 l w2) : GrowV w B b v v2 l w2 := by
  refine ⟨k.1, Chg.pre hb k.2.1, ?_⟩
  rcases k.2.2 with e | ⟨x, e, hx⟩
  · exact .inl e
  · exact .inr ⟨x, e, Nat.le_trans hb.size hx⟩
theorem GrowV.post {w w1 w2 : World} {B b : Nat} {v v1 : Value} {l : List Rng} (h : GrowV w B b v v1 l w1) (hb : Below w1.heap.size w1 w2) : GrowV w B b v v1 l w2 :=
  ⟨h.1.below hb, h.2.1.post hb, h.2.2⟩
/-- A block of another type is as it was. -/
theorem Chg.blk {w w' : World} {B b g : Nat} {v : Value} {l : List Rng} {t : TypeId} {cs : Array Value} (h : Chg w w' b v) (hs : IS w B b v l) (hg : Blk w g t cs) (h1 : t ≠ 109) (h2 : g ≠ b) : Blk w' g t cs :=
  (h.block g hg.lt h2 (own_ne hs.2.2.1 hg (fun e => h1 e.symm))).trans hg
/-- A row that is another one is as it was. -/
theorem Chg.row {w w' : World} {b base size n : Nat} {e : TypeId} {v u : Value} {xs : List Value} (h : Chg w w' b v) (hu : w.ownsRow base e size u n xs) (h1 : u.ownBlock ≠ some b) (h2 : ∀ g, v.ownBlock = some g → u.ownBlock ≠ some g) : w'.ownsRow base e size u n xs := by
  refine ⟨hu.1, ?_⟩
  have hlt := hu.lt
  rcases hu.2 with hn | ⟨g, cap, cur, rfl, hb, hgg, rest⟩
  · exact .inl hn
  · refine .inr ⟨g, cap, cur, rfl, hb, ?_, rest⟩
    exact (h.block g (hlt g rfl).2 (fun e => h1 (by rw [← e]; rfl)) (fun e => h2 g e rfl)).trans hgg
/-- Another set is as it was. -/
theorem Chg.other {w w' : World} {B b b2 : Nat} {v v2 : Value} {l l2 : List Rng} (h : Chg w w' b v) (hs : IS w B b v l) (h2 : IS w B b2 v2 l2) (hne : b2 ≠ b) (hrow : ∀ g, v.ownBlock = some g → v2.ownBlock ≠ some g) : IS w' B b2 v2 l2 :=
  ⟨h2.1, h.blk hs h2.2.1 (by decide) hne, h.row h2.2.2.1 (own_ne h2.2.2.1 hs.2.1 (by decide)) hrow, h2.2.2.2⟩
/-- All that lies below the sets is as it was. -/
theorem Chg.below {w w' : World} {B b : Nat} {v : Value} {l : List Rng} (h : Chg w w' b v) (hs : IS w B b v l) (hB : B ≤ w.heap.size) : Below B w w' :=
  ⟨h.os, h.tape, h.output, h.size, fun g hg => h.block g (Nat.lt_of_lt_of_le hg hB) (fun e => by have := hs.1; omega) (fun e => by have := (hs.2.2.1.lt g e).1; omega)⟩

def GrowPost (w : World) (B b : Nat) (v : Value) (l : List Rng) (r : Value) (e : Ending) (w' : World) : Prop := e = .returned r ∧ ∃ v', GrowV w B b v v' l w'
theorem addP_ins {l m : List Rng} {lo hi : Int} (h : addP l lo hi = some m) : (-20 ≤ lo ∧ hi ≤ 120 ∧ lo ≤ hi) ∧ nearN (lo, hi + 1) l ≤ 1 ∧ m = insR (lo, hi + 1) l := by
  unfold addP at h
  split at h
  · rename_i hc
    injection h with h
    exact ⟨⟨hc.1, hc.2.1, hc.2.2.1⟩, hc.2.2.2, h.symm⟩
  · cases h
theorem addRange_any (w : World) (B b : Nat) (v : Value) (l m : List Rng) (lo hi : Int) (h : IS w B b v l) (hBw : B ≤ w.heap.size) (hn : l.length ≤ 1000) (hg : Good l) (hm : addP l lo hi = some m) :
    Calls Tryd.prog 86 #[.pointer (some ⟨b, 0, none⟩), .int .i64 lo, .int .i64 hi] w (GrowPost w B b v m (.tuple #[])) := by
  obtain ⟨⟨l1, l2, l3⟩, hnear, rfl⟩ := addP_ins hm
  have H := Lib.hid h
  have HG := Lib.hid hg
  have HN := Lib.hid hnear
  have hln := Lib.hid hn
  clear h hg hnear hm hn
  go_enter Tryd.func86, Tryd.ntmps86
  go_wp2_with (first
    | (go_at_call 72; go_fit (newInterval_any _ lo (hi + 1)); rintro e w1 ⟨rfl, hb⟩; have HB := Lib.hid hb; clear hb)
    | (go_at_call 106; go_fit (addIvl_any _ B b v l (lo, hi + 1) (H.out.below HB.out) (Nat.le_trans hBw HB.out.size) hln.out HG.out HN.out); rintro e w2 ⟨rfl, v', hv'⟩; have HV := Lib.hid hv'; clear hv'))
  go_end0
  exact ⟨rfl, v', GrowV.pre HB.out HV.out⟩
theorem addOne_any (w : World) (B b : Nat) (v : Value) (l m : List Rng) (lo : Int) (h : IS w B b v l) (hBw : B ≤ w.heap.size) (hn : l.length ≤ 1000) (hg : Good l) (hm : addP l lo lo = some m) :
    Calls Tryd.prog 85 #[.pointer (some ⟨b, 0, none⟩), .int .i64 lo] w (GrowPost w B b v m (.tuple #[])) := by
  obtain ⟨⟨l1, l2, l3⟩, hnear, rfl⟩ := addP_ins hm
  have H := Lib.hid h
  have HG := Lib.hid hg
  have HN := Lib.hid hnear
  have hln := Lib.hid hn
  clear h hg hnear hm hn l3
  go_enter Tryd.func85, Tryd.ntmps85
  go_wp2_with (first
    | (go_at_call 72; go_fit (newInterval_any _ lo (lo + 1)); rintro e w1 ⟨rfl, hb⟩; have HB := Lib.hid hb; clear hb)
    | (go_at_call 106; go_fit (addIvl_any _ B b v l (lo, lo + 1) (H.out.below HB.out) (Nat.le_trans hBw HB.out.size) hln.out HG.out HN.out); rintro e w2 ⟨rfl, v', hv'⟩; have HV := Lib.hid hv'; clear hv'))
  go_end0
  exact ⟨rfl, v', GrowV.pre HB.out HV.out⟩
end Go.Proofs.YtiffjbpejlnndaaDoor
namespace Go.Proofs.YtiffjbpejlnndaaDoor
open Go.RowKit

theorem addAll_app : ∀ (r s l : List Rng), addAll l (r ++ s) = (addAll l r).bind fun m => addAll m s
  | [], s, l => rfl
  | p :: r, s, l => by
    show (addP l p.1 (p.2 - 1)).bind (fun m => addAll m (r ++ s)) = ((addP l p.1 (p.2 - 1)).bind fun m => addAll m r).bind fun m => addAll m s
    cases addP l p.1 (p.2 - 1) with
    | none => rfl
    | some m => exact addAll_app r s m
/-- One range more. -/
theorem addAll_take {l l2 m : List Rng} (h : addAll l l2 = some m) {k : Nat} {p : Rng} (hp : l2[k]? = some p) {x : List Rng} (hx : addAll l (l2.take k) = some x) :
    ∃ y, addP x p.1 (p.2 - 1) = some y ∧ addAll l (l2.take (k + 1)) = some y := by
  have h1 := addAll_app (l2.take (k + 1)) (l2.drop (k + 1)) l
  rw [List.take_append_drop, h] at h1
  have h2 := addAll_app (l2.take k) [p] l
  rw [← take_at hp, hx] at h2
  have h3 : addAll l (l2.take (k + 1)) = (addP x p.1 (p.2 - 1)).bind fun m => some m := h2
  cases hy : addP x p.1 (p.2 - 1) with
  | none =>
    rw [hy] at h3
    rw [h3] at h1
    cases h1
  | some y =>
    rw [hy] at h3
    exact ⟨y, rfl, h3⟩
theorem ne_nil (W : World) (a : Addr) (n c : Nat) : (binOp .neq 106 (.slice (some a) n c) (.slice none 0 0)).run Tryd.prog W = .ok (.bool true) W := by kernel_rfl
theorem ne_nil0 (W : World) : (binOp .neq 106 (.slice none 0 0) (.slice none 0 0)).run Tryd.prog W = .ok (.bool false) W := by kernel_rfl
theorem addSet_nil (w : World) (b b2 : Nat) (c0 : w.cell? ⟨b2, 0, none⟩ = some (.slice none 0 0)) :
    Calls Tryd.prog 87 #[.pointer (some ⟨b, 0, none⟩), .pointer (some ⟨b2, 0, none⟩)] w fun e w' => e = .returned (.pointer (some ⟨b, 0, none⟩)) ∧ w' = w := by
  have hq := ne_nil0 w
  go_enter Tryd.func87, Tryd.ntmps87
  go_wp2
  go_ret
  exact ⟨rfl, rfl⟩
/-- Two sets that share nothing. -/
def Apart (b b2 : Nat) (v v2 : Value) : Prop := b2 ≠ b ∧ ∀ g, v.ownBlock = some g → v2.ownBlock ≠ some g
theorem GrowV.other {w w' : World} {B b b2 : Nat} {v v' v2 : Value} {l l' l2 : List Rng} (h : GrowV w B b v v' l' w') (hs : IS w B b v l) (h2 : IS w B b2 v2 l2) (ha : Apart b b2 v v2) : IS w' B b2 v2 l2 := h.2.1.other hs h2 ha.1 ha.2
theorem GrowV.apart {w w' : World} {B b b2 : Nat} {v v' v2 : Value} {l' l2 : List Rng} (h : GrowV w B b v v' l' w') (h2 : IS w B b2 v2 l2) (ha : Apart b b2 v v2) : Apart b b2 v' v2 :=
  ⟨ha.1, fun g hg => by
    rcases h.2.2 with e | ⟨x, e, hx⟩
    · exact ha.2 g (e ▸ hg)
    · intro h3
      have h4 := (h2.2.2.1.lt g h3).2
      rw [e] at hg
      injection hg with hg
      omega⟩
set_option maxRecDepth 100000 in
set_option maxHeartbeats 1000000 in
theorem addSet_any (w : World) (B b b2 : Nat) (v v2 : Value) (l l2 m : List Rng) (h : IS w B b v l) (h2 : IS w B b2 v2 l2) (ha : Apart b b2 v v2) (hBw : B ≤ w.heap.size) (hg : Good l) (hb : InR l) (hn2 : l2.length ≤ 1000) (hm : addAll l l2 = some m) :
    Calls Tryd.prog 87 #[.pointer (some ⟨b, 0, none⟩), .pointer (some ⟨b2, 0, none⟩)] w (GrowPost w B b v m (.pointer (some ⟨b, 0, none⟩))) := by
  by_cases hl : l2 = []
  · have hv := h2.2.2.2.2 hl
    subst hv
    subst hl
    injection hm with hm
    subst hm
    refine (addSet_nil w b b2 (h2.2.1.cell 0)).mono ?_
    rintro e w' ⟨rfl, rfl⟩
    exact ⟨rfl, v, GrowV.refl h⟩
  · obtain ⟨A, c, rfl⟩ := h2.form
    have hpos : 0 < l2.length := List.length_pos_iff.2 hl
    obtain ⟨g, rfl, hgl, _, _⟩ := h2.cells (k := 0) (p := l2[0]) (List.getElem?_eq_getElem hpos)
    have c0 : w.cell? ⟨b2, 0, none⟩ = some (.slice (some ⟨g, 0, none⟩) l2.length c) := h2.2.1.cell 0
    obtain ⟨n, hnn⟩ : ∃ n, l2.length = n := ⟨_, rfl⟩
    rw [hnn] at c0 hpos hn2 h2 ha
    have hq := ne_nil w ⟨g, 0, none⟩ n c
    have H := Lib.hid h
    have H2 := Lib.hid h2
    have HA := Lib.hid ha
    have HG := Lib.hid hg
    have HR := Lib.hid hb
    have HM := Lib.hid hm
    have Hn := Lib.hid hnn
    clear h h2 ha hg hb hm hnn hl
    go_enter Tryd.func87, Tryd.ntmps87
    go_wp2
    go_loopw [5] (fun s5 wr => ∃ (k : Nat) (x : List Rng) (v' : Value), k ≤ n ∧ s5 = .int .i64 (k : Int) ∧ Hid (addAll l (l2.take k) = some x) ∧ GrowV w B b v v' x wr) (fun s5 _ => n - (intOf s5).toNat)
    case atStart => exact ⟨0, l, v, Nat.zero_le _, rfl, rfl, GrowV.refl H.out⟩
    case round =>
      obtain ⟨k, x, v', hk, rfl, hx, hgv⟩ := hrel
      have hi2 := hgv.other H.out H2.out HA.out
      have c1 : wr.cell? ⟨b2, 0, none⟩ = some (.slice (some ⟨g, 0, none⟩) n c) := hi2.2.1.cell 0
      have HV := Lib.hid hgv
      clear hgv
      by_cases hlt : k < n
      · obtain ⟨p, hp⟩ : ∃ p, l2[k]? = some p := ⟨l2[k]'(by rw [Hn.out]; exact hlt), List.getElem?_eq_getElem _⟩
        obtain ⟨gl, d1, d2, _, _⟩ := hi2.both Hn.out hp
        obtain ⟨y, hy1, hy2⟩ := addAll_take HM.out hp hx.out
        obtain ⟨⟨e1, e2, e3⟩, hnear, hyi⟩ := addP_ins hy1
        have hxo := addAll_ok (l2.take k) l HG.out HR.out hx.out
        have hpe : ((p.1, p.2 - 1 + 1) : Rng) = (p.1, p.2) := by rw [Int.sub_add_cancel]
        rw [hpe] at hnear hyi
        have HN := Lib.hid hnear
        have HY := Lib.hid hy2
        have HYI := Lib.hid hyi
        have HXO := Lib.hid hxo
        have HXL := Lib.hid (Nat.le_trans (ok_len hxo.1 hxo.2.1).1 (by omega : 141 ≤ 1000))
        clear hi2 hp hy1 hy2 hnear hyi hxo hpe
        go_wp2_with (first
          | (go_at_call 72; go_fit (newInterval_any _ p.1 p.2); rintro e w1 ⟨rfl, hb⟩; have HB := Lib.hid (below_tr (below_al (Below.refl _ wr) (Nat.le_refl _)) (Nat.le_refl _) hb); clear hb)
          | (go_at_call 106; go_fit (addIvl_any _ B b v' x (p.1, p.2) (HV.out.1.below HB.out) (Nat.le_trans hBw (Nat.le_trans HV.out.2.1.size HB.out.size)) HXL.out HXO.out.1 HN.out); rintro e w2 ⟨rfl, v'', hv''⟩; have HV2 := Lib.hid (show GrowV w B b v v'' _ w2 from HV.out.trans (GrowV.pre HB.out hv'')); clear hv''))
        go_roundw
        case rel => exact ⟨k + 1, y, v'', by omega, rfl, HY, by rw [HYI.out]; exact HV2.out⟩
        case measure =>
          simp [intOf]
          omega
      · have hkn : k = n := by omega
        subst hkn
        have hxm : x = m := by
          have e1 := hx.out
          rw [List.take_of_length_le (by rw [Hn.out]; exact Nat.le_refl _), HM.out] at e1
          injection e1 with e1
          exact e1.symm
        subst hxm
        clear hi2
        go_wp2
        go_ret
        exact ⟨rfl, v', HV.out⟩
end Go.Proofs.YtiffjbpejlnndaaDoor
