/-
  A range is added to an interval set that has some: one that it meets is made greater. Conditions: at most 1000 ranges.
-/
import Derived.Test.YtiffjbpejlnndaaDoorIvlQ
import Derived.Test.YtiffjbpejlnndaaDoorIvlP
import Derived.Deep.RegionHeld3
namespace Go.Proofs.YtiffjbpejlnndaaDoor
open Go.RowKit

/-- What a region that reads the set and two ranges in variables wants. -/
def MG (B b zp zq : Nat) (v : Value) (p q : Rng) (l : List Rng) (W : World) : Prop := IS W B b v l ∧ Blk W zp 109 #[.int .i64 p.1, .int .i64 p.2] ∧ Blk W zq 109 #[.int .i64 q.1, .int .i64 q.2]
theorem IS.both {w : World} {B b g n c : Nat} {l : List Rng} (h : IS w B b (.slice (some ⟨g, 0, none⟩) n c) l) (hn : l.length = n) {k : Nat} {p : Rng} (hk : l[k]? = some p) :
    g < w.heap.size ∧ w.cell? ⟨g, k * 2, none⟩ = some (.int .i64 p.1) ∧ w.cell? ⟨g, k * 2 + 1, none⟩ = some (.int .i64 p.2) ∧ w.frozen? ⟨g, k * 2, none⟩ = false ∧ w.frozen? ⟨g, k * 2 + 1, none⟩ = false := by
  subst hn
  obtain ⟨g', eg, h1, h2, h3⟩ := h.cells hk
  obtain rfl : g = g' := by injection eg with e; injection e
  exact ⟨h1, h2, h3, h.2.2.1.frozenAt (k * 2), h.2.2.1.frozenAt (k * 2 + 1)⟩
theorem is_set2n {w : World} {B b g n c : Nat} {l : List Rng} (h : IS w B b (.slice (some ⟨g, 0, none⟩) n c) l) (hn : l.length = n) (k : Nat) (q : Rng) :
    IS ((w.setCell ⟨g, k * 2, none⟩ (.int .i64 q.1)).setCell ⟨g, k * 2 + 1, none⟩ (.int .i64 q.2)) B b (.slice (some ⟨g, 0, none⟩) n c) (l.set k q)
      ∧ w.grownBy ((w.setCell ⟨g, k * 2, none⟩ (.int .i64 q.1)).setCell ⟨g, k * 2 + 1, none⟩ (.int .i64 q.2)) (some g) := by
  subst hn
  exact is_set2 h k q
theorem keep5 {W : World} {b zp zq g i j : Nat} {v x y a0 a1 e0 e1 : Value} (n1 : ¬ b = g) (n2 : ¬ zp = g) (n3 : ¬ zq = g)
    (h : W.cell? ⟨b, 0, none⟩ = some v ∧ W.cell? ⟨zp, 0, none⟩ = some a0 ∧ W.cell? ⟨zp, 1, none⟩ = some a1 ∧ W.cell? ⟨zq, 0, none⟩ = some e0 ∧ W.cell? ⟨zq, 1, none⟩ = some e1) :
    ((W.setCell ⟨g, i, none⟩ x).setCell ⟨g, j, none⟩ y).cell? ⟨b, 0, none⟩ = some v ∧ ((W.setCell ⟨g, i, none⟩ x).setCell ⟨g, j, none⟩ y).cell? ⟨zp, 0, none⟩ = some a0 ∧ ((W.setCell ⟨g, i, none⟩ x).setCell ⟨g, j, none⟩ y).cell? ⟨zp, 1, none⟩ = some a1
      ∧ ((W.setCell ⟨g, i, none⟩ x).setCell ⟨g, j, none⟩ y).cell? ⟨zq, 0, none⟩ = some e0 ∧ ((W.setCell ⟨g, i, none⟩ x).setCell ⟨g, j, none⟩ y).cell? ⟨zq, 1, none⟩ = some e1 := by
  have far : ∀ (t o : Nat), ¬ t = g → ((W.setCell ⟨g, i, none⟩ x).setCell ⟨g, j, none⟩ y).cell? ⟨t, o, none⟩ = W.cell? ⟨t, o, none⟩ := fun t o hn =>
    (World.cell?_of_block (Below.heap_setCell _ ⟨g, j, none⟩ y t hn)).trans (World.cell?_of_block (Below.heap_setCell _ ⟨g, i, none⟩ x t hn))
  exact ⟨(far _ _ n1).trans h.1, (far _ _ n2).trans h.2.1, (far _ _ n2).trans h.2.2.1, (far _ _ n3).trans h.2.2.2.1, (far _ _ n3).trans h.2.2.2.2⟩
theorem MG.below {B b zp zq : Nat} {v : Value} {p q : Rng} {l : List Rng} {W W' : World} (h : MG B b zp zq v p q l W) (hb : Below W.heap.size W W') : MG B b zp zq v p q l W' :=
  ⟨h.1.below hb, h.2.1.below hb h.2.1.lt, h.2.2.below hb h.2.2.lt⟩
theorem MG.drew {B b zp zq : Nat} {v : Value} {p q : Rng} {l : List Rng} {W : World} (h : MG B b zp zq v p q l W) : MG B b zp zq v p q l W.drew := h
theorem MG.cells {B b zp zq : Nat} {v : Value} {p q : Rng} {l : List Rng} {W : World} (h : MG B b zp zq v p q l W) :
    W.cell? ⟨b, 0, none⟩ = some v ∧ W.cell? ⟨zp, 0, none⟩ = some (.int .i64 p.1) ∧ W.cell? ⟨zp, 1, none⟩ = some (.int .i64 p.2) ∧ W.cell? ⟨zq, 0, none⟩ = some (.int .i64 q.1) ∧ W.cell? ⟨zq, 1, none⟩ = some (.int .i64 q.2) :=
  ⟨h.1.2.1.cell 0, h.2.1.cell 0, h.2.1.cell 1, h.2.2.cell 0, h.2.2.cell 1⟩
set_option maxRecDepth 100000 in
set_option maxHeartbeats 4000000 in
theorem add_merge (w : World) (B b g c kk : Nat) (l : List Rng) (p q : Rng) (h : IS w B b (.slice (some ⟨g, 0, none⟩) l.length c) l) (_hBw : B ≤ w.heap.size) (hn : l.length ≤ 1000) (hkk : l[kk]? = some q) (hpastk : Past l p kk) (x1 : ¬ p.2 < q.1) (x2 : ¬ p.2 = q.1) (x3 : p.1 ≤ q.2) (hnext : ∀ r, l[kk + 1]? = some r → max q.2 p.2 < r.1 ∧ r.1 < r.2) :
    Calls Tryd.prog 106 #[.pointer (some ⟨b, 0, none⟩), .agg #[.int .i64 p.1, .int .i64 p.2]] w (AddPost w B b (.slice (some ⟨g, 0, none⟩) l.length c) (l.set kk (min q.1 p.1, max q.2 p.2))) := by
  have c0 : w.cell? ⟨b, 0, none⟩ = some (.slice (some ⟨g, 0, none⟩) l.length c) := h.2.1.cell 0
  have hlt := h.2.1.lt
  have hgw : g < w.heap.size := (h.2.2.1.lt g rfl).2
  have hq0 := eq_nil (w.alloc (P109 p)) ⟨g, 0, none⟩ l.length c
  have H0 := Lib.hid (h.below ((Below.refl _ _).alloc (Nat.le_refl _) (P109 p)))
  have HZ0 : Hid (Blk (w.alloc (P109 p)) w.heap.size 109 #[.int .i64 p.1, .int .i64 p.2]) := Blk.new _ _ _
  have Hkk := Lib.hid hkk
  have Hpk := Lib.hid hpastk
  have X1 := Lib.hid x1
  have X2 := Lib.hid x2
  have X3 := Lib.hid x3
  have HNX := Lib.hid hnext
  clear x1 x2 x3 hnext
  have hkn : kk < l.length := by exact at_lt hkk
  obtain ⟨n, hnn⟩ : ∃ n, l.length = n := ⟨_, rfl⟩
  rw [hnn] at c0 hq0 hn hkn ⊢
  have Hn := Lib.hid hnn
  clear h hnn hkk hpastk
  go_enter Tryd.func106, Tryd.ntmps106
  go_wp2
  generalize hw0 : w.alloc (.cells #[.int .i64 p.1, .int .i64 p.2] 109) = w0
  have HB0 : Hid (Below w.heap.size w w0) := by rw [← hw0]; exact (Below.refl _ _).alloc (Nat.le_refl _) _
  have H0' : Hid (IS w0 B b (.slice (some ⟨g, 0, none⟩) l.length c) l) := by rw [← hw0]; exact H0.out
  have HZ0' : Hid (Blk w0 w.heap.size 109 #[.int .i64 p.1, .int .i64 p.2]) := by rw [← hw0]; exact HZ0.out
  clear hw0 H0 HZ0 hq0 c0
  go_loopw [32] (fun s32 wr => ∃ k : Nat, k ≤ kk ∧ s32 = .int .i64 (k : Int) ∧ Below w0.heap.size w0 wr) (fun s32 _ => n - (intOf s32).toNat)
  case atStart => exact ⟨0, Nat.zero_le _, rfl, Below.refl _ _⟩
  case round =>
    obtain ⟨k, hk, rfl, hb⟩ := hrel
    have hIS := H0'.out.below hb
    have hZ := HZ0'.out.below hb HZ0'.out.lt
    have c0 : wr.cell? ⟨b, 0, none⟩ = some (.slice (some ⟨g, 0, none⟩) l.length c) := hIS.2.1.cell 0
    rw [Hn.out] at c0
    have z0 : wr.cell? ⟨w.heap.size, 0, none⟩ = some (.int .i64 p.1) := hZ.cell 0
    have z1 : wr.cell? ⟨w.heap.size, 1, none⟩ = some (.int .i64 p.2) := hZ.cell 1
    have hzl : w.heap.size < wr.heap.size := hZ.lt
    have hbl : b < wr.heap.size := hIS.2.1.lt
    have HB := Lib.hid hb
    have HI := Lib.hid hIS
    have HZ := Lib.hid hZ
    clear hb hIS hZ
    by_cases hlt2 : k < kk
    · have hltn : k < n := by omega
      obtain ⟨r, hr⟩ : ∃ r, l[k]? = some r := ⟨l[k]'(by rw [Hn.out]; exact hltn), List.getElem?_eq_getElem _⟩
      obtain ⟨g', eg, hg', d1, d2⟩ := HI.out.cells hr
      obtain rfl : g = g' := by injection eg with e; injection e
      obtain ⟨x1, x2, x3⟩ := Hpk.out k r hlt2 hr
      clear eg hr
      go_wp2
      go_roundw
      case rel => exact ⟨k + 1, by omega, rfl, below_al HB.out (Nat.le_refl _)⟩
      case measure =>
        simp [intOf]
        omega
    · obtain rfl : k = kk := by omega
      clear hk hlt2
      obtain ⟨g', eg, hg', d1, d2⟩ := HI.out.cells Hkk.out
      obtain rfl : g = g' := by injection eg with e; injection e
      clear eg
      have x1 := X1.out
      have x2 := X2.out
      have x3 := X3.out
      go_upto_region 12 with fail
      have hmg : MG B b w.heap.size wr.heap.size (.slice (some ⟨g, 0, none⟩) l.length c) p q l (wr.alloc (P109 q)) := ⟨HI.out.below ((Below.refl _ _).alloc (Nat.le_refl _) (P109 q)), HZ.out.alloc (P109 q), Blk.new _ _ _⟩
      rw [Hn.out] at hmg
      have HB1 := Lib.hid (below_al HB.out (Nat.le_refl _) (o := P109 q))
      have nbg : ¬ b = g := fun e => own_ne HI.out.2.2.1 HI.out.2.1 (by decide) (by rw [e]; rfl)
      have nzp : ¬ w.heap.size = g := by omega
      have nzq : ¬ wr.heap.size = g := by omega
      clear c0 z0 z1 hzl hbl d1 d2 HB HI HZ
      generalize (wr.alloc (P109 q)) = w1 at hmg HB1 ⊢
      generalize wr.heap.size = zq at hmg nzq ⊢
      obtain ⟨c0, z0, z1, y0, y1⟩ := hmg.cells
      have HM := Lib.hid hmg
      clear hmg
      go_region_held3 (fun W => W.cell? ⟨b, 0, none⟩ = some (.slice (some ⟨g, 0, none⟩) n c) ∧ W.cell? ⟨w.heap.size, 0, none⟩ = some (.int .i64 p.1) ∧ W.cell? ⟨w.heap.size, 1, none⟩ = some (.int .i64 p.2) ∧ W.cell? ⟨zq, 0, none⟩ = some (.int .i64 q.1) ∧ W.cell? ⟨zq, 1, none⟩ = some (.int .i64 q.2))
        (first | go_keep | exact keep5 nbg nzp nzq ⟨c0', z0', z1', y0', y1'⟩ | (simp [*]))
        (first
          | (go_at_call 95; go_fit (intMin_any _ q.1 p.1); rintro e w2 ⟨rfl, rfl⟩)
          | (go_at_call 105; go_fit (intMax_any _ q.2 p.2); rintro e w2 ⟨rfl, rfl⟩)
          | (go_at_call 72; go_fit (newInterval_any _ (min q.1 p.1) (max q.2 p.2)); rintro e w2 ⟨rfl, hb2⟩; have HM2 := Lib.hid (show MG _ _ _ _ _ _ _ _ w2 from (by first | exact HM.out.below hb2 | exact HM.out.drew.below hb2)); obtain ⟨c0', z0', z1', y0', y1'⟩ := HM2.out.cells; obtain ⟨gl2, d1', d2', f1', f2'⟩ := HM2.out.1.both Hn.out Hkk.out; have HB2 := Lib.hid (show Below w0.heap.size w0 w2 from (by first | exact below_tr HB1.out (Nat.le_refl _) hb2 | exact below_tr HB1.out.drew (Nat.le_refl _) hb2)); clear hb2))
      obtain ⟨hs1, hs2⟩ := is_set2n HM2.out.1 Hn.out k (min q.1 p.1, max q.2 p.2)
      generalize ((w2.setCell ⟨g, k * 2, none⟩ (.int .i64 (min q.1 p.1))).setCell ⟨g, k * 2 + 1, none⟩ (.int .i64 (max q.2 p.2))) = w3 at hs1 hs2 ⊢
      have b0 : w3.cell? ⟨b, 0, none⟩ = some (.slice (some ⟨g, 0, none⟩) n c) := hs1.2.1.cell 0
      have hl2 : (l.set k (min q.1 p.1, max q.2 p.2)).length = n := by rw [List.length_set]; exact Hn.out
      have hm2 : (l.set k (min q.1 p.1, max q.2 p.2))[k]? = some (min q.1 p.1, max q.2 p.2) := by
        rw [List.getElem?_set_self (by rw [Hn.out]; exact hkn)]
      have HS1 := Lib.hid hs1
      have HS2 := Lib.hid hs2
      have HL2 := Lib.hid hl2
      obtain ⟨gl3, m0, m1, _, _⟩ := hs1.both hl2 hm2
      have hbl3 : b < w3.heap.size := hs1.2.1.lt
      clear c0 z0 z1 y0 y1 c0' z0' z1' y0' y1' d1' d2' f1' f2' hs1 hs2 hl2 hm2
      by_cases hk1 : k + 1 < n
      · obtain ⟨r, hr⟩ : ∃ r, l[k + 1]? = some r := ⟨l[k + 1]'(by rw [Hn.out]; exact hk1), List.getElem?_eq_getElem _⟩
        obtain ⟨e1, e2⟩ := HNX.out r hr
        have hr2 : (l.set k (min q.1 p.1, max q.2 p.2))[k + 1]? = some r := by rw [List.getElem?_set_ne (by omega)]; exact hr
        obtain ⟨_, r0, r1, _, _⟩ := HS1.out.both HL2.out hr2
        have t1 : ¬ max q.2 p.2 ≥ r.2 := by omega
        have t2 : ¬ max q.2 p.2 ≥ r.1 := by omega
        have hk2 : k < n - 1 := by omega
        clear hr hr2
        go_wp2
        go_end0
        exact ⟨rfl, .slice (some ⟨g, 0, none⟩) n c, HS1.out.below (below_al (below_al (Below.refl _ _) (Nat.le_refl _)) (Nat.le_refl _)), chg_of (below_tr HB0.out (Nat.le_refl _) HB2.out) HS2.out _ _ (only_alloc (only_alloc (only_refl _ _) _) _), .inl rfl⟩
      · go_wp2
        go_end0
        exact ⟨rfl, .slice (some ⟨g, 0, none⟩) n c, HS1.out, chg_of (below_tr HB0.out (Nat.le_refl _) HB2.out) HS2.out _ _ (only_refl _ _), .inl rfl⟩
end Go.Proofs.YtiffjbpejlnndaaDoor
