/-
  A range is added to an interval set that has some: one that lies just behind it is led back. Conditions: at most 1000 ranges.
-/
import Derived.Test.YtiffjbpejlnndaaDoorIvlQ
namespace Go.Proofs.YtiffjbpejlnndaaDoor
open Go.RowKit

set_option maxRecDepth 100000 in
set_option maxHeartbeats 4000000 in
theorem add_left (w : World) (B b g c kk : Nat) (l : List Rng) (p q : Rng) (h : IS w B b (.slice (some ⟨g, 0, none⟩) l.length c) l) (_hBw : B ≤ w.heap.size) (hn : l.length ≤ 1000) (hkk : l[kk]? = some q) (hpastk : Past l p kk) (x1 : ¬ p.2 < q.1) (x2 : p.2 = q.1) :
    Calls Tryd.prog 106 #[.pointer (some ⟨b, 0, none⟩), .agg #[.int .i64 p.1, .int .i64 p.2]] w (AddPost w B b (.slice (some ⟨g, 0, none⟩) l.length c) (l.set kk (p.1, q.2))) := by
  have c0 : w.cell? ⟨b, 0, none⟩ = some (.slice (some ⟨g, 0, none⟩) l.length c) := h.2.1.cell 0
  have hlt := h.2.1.lt
  have hq0 := eq_nil (w.alloc (P109 p)) ⟨g, 0, none⟩ l.length c
  have H0 := Lib.hid (h.below ((Below.refl _ _).alloc (Nat.le_refl _) (P109 p)))
  have HZ0 : Hid (Blk (w.alloc (P109 p)) w.heap.size 109 #[.int .i64 p.1, .int .i64 p.2]) := Blk.new _ _ _
  have Hkk := Lib.hid hkk
  have Hpk := Lib.hid hpastk
  have X1 := Lib.hid x1
  have X2 := Lib.hid x2
  clear x1 x2
  have hkn : kk < l.length := by exact at_lt hkk
  obtain ⟨n, hnn⟩ : ∃ n, l.length = n := ⟨_, rfl⟩
  rw [hnn] at c0 hq0 hn hkn ⊢
  have Hn := Lib.hid hnn
  clear h hnn hkk hpastk
  go_enter Tryd.func106, Tryd.ntmps106
  go_wp2
  generalize hw0 : w.alloc (.cells #[.int .i64 p.1, .int .i64 p.2] 109) = w0
  have HB0 : Hid (Below w.heap.size w w0) := by rw [← hw0]; exact (Below.refl _ _).alloc (Nat.le_refl _) _
  have H0' : Hid (IS w0 B b (.slice (some ⟨g, 0, none⟩) l.length c) l) := by rw [← hw0]; exact H0.out
  have HZ0' : Hid (Blk w0 w.heap.size 109 #[.int .i64 p.1, .int .i64 p.2]) := by rw [← hw0]; exact HZ0.out
  clear hw0 H0 HZ0 hq0 c0
  go_loopw [32] (fun s32 wr => ∃ k : Nat, k ≤ kk ∧ s32 = .int .i64 (k : Int) ∧ Below w0.heap.size w0 wr) (fun s32 _ => n - (intOf s32).toNat)
  case atStart => exact ⟨0, Nat.zero_le _, rfl, Below.refl _ _⟩
  case round =>
    obtain ⟨k, hk, rfl, hb⟩ := hrel
    have hIS := H0'.out.below hb
    have hZ := HZ0'.out.below hb HZ0'.out.lt
    have c0 : wr.cell? ⟨b, 0, none⟩ = some (.slice (some ⟨g, 0, none⟩) l.length c) := hIS.2.1.cell 0
    rw [Hn.out] at c0
    have z0 : wr.cell? ⟨w.heap.size, 0, none⟩ = some (.int .i64 p.1) := hZ.cell 0
    have z1 : wr.cell? ⟨w.heap.size, 1, none⟩ = some (.int .i64 p.2) := hZ.cell 1
    have hzl : w.heap.size < wr.heap.size := hZ.lt
    have hbl : b < wr.heap.size := hIS.2.1.lt
    have HB := Lib.hid hb
    have HI := Lib.hid hIS
    have HZ := Lib.hid hZ
    clear hb hIS hZ
    by_cases hlt2 : k < kk
    · have hltn : k < n := by omega
      obtain ⟨r, hr⟩ : ∃ r, l[k]? = some r := ⟨l[k]'(by rw [Hn.out]; exact hltn), List.getElem?_eq_getElem _⟩
      obtain ⟨g', eg, hg', d1, d2⟩ := HI.out.cells hr
      obtain rfl : g = g' := by injection eg with e; injection e
      obtain ⟨x1, x2, x3⟩ := Hpk.out k r hlt2 hr
      clear eg hr
      go_wp2
      go_roundw
      case rel => exact ⟨k + 1, by omega, rfl, below_al HB.out (Nat.le_refl _)⟩
      case measure =>
        simp [intOf]
        omega
    · obtain rfl : k = kk := by omega
      clear hk hlt2
      obtain ⟨g', eg, hg', d1, d2⟩ := HI.out.cells Hkk.out
      obtain rfl : g = g' := by injection eg with e; injection e
      clear eg
      have x1 := X1.out
      have x2 := X2.out
      have HI2 := Lib.hid (HI.out.below ((Below.refl _ _).alloc (Nat.le_refl _) (P109 q)))
      have f1 : wr.frozen? ⟨g, k * 2, none⟩ = false := HI.out.2.2.1.frozenAt (k * 2)
      go_upto_region 10 with fail
      go_region
      all_goals go_wp2
      all_goals go_end0
      all_goals
        have hs := is_set1 HI.out Hkk.out p.1
        rw [Hn.out] at hs
        exact ⟨rfl, .slice (some ⟨g, 0, none⟩) n c, (hs.1.below ((Below.refl _ _).alloc (Nat.le_refl _) _)).below (Below.refl _ _).drew, chg_of (below_tr HB0.out (Nat.le_refl _) HB.out) hs.2 _ _ (only_drew (only_alloc (only_refl _ _) _)), .inl rfl⟩
end Go.Proofs.YtiffjbpejlnndaaDoor
