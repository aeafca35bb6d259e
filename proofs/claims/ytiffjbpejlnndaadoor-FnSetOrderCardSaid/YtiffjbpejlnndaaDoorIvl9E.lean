/-
  A range is added to an interval set that has some: behind all others. Conditions: at most 1000 ranges.
-/
import Derived.Test.YtiffjbpejlnndaaDoorIvlQ
namespace Go.Proofs.YtiffjbpejlnndaaDoor
open Go.RowKit

set_option maxRecDepth 100000 in
set_option maxHeartbeats 4000000 in
theorem add_end (w : World) (B b g c kk : Nat) (l : List Rng) (p : Rng) (h : IS w B b (.slice (some ⟨g, 0, none⟩) l.length c) l) (hBw : B ≤ w.heap.size) (hn : l.length ≤ 1000) (hkk : kk = l.length) (hpastk : Past l p kk) :
    Calls Tryd.prog 106 #[.pointer (some ⟨b, 0, none⟩), .agg #[.int .i64 p.1, .int .i64 p.2]] w (AddPost w B b (.slice (some ⟨g, 0, none⟩) l.length c) (l ++ [p])) := by
  have c0 : w.cell? ⟨b, 0, none⟩ = some (.slice (some ⟨g, 0, none⟩) l.length c) := h.2.1.cell 0
  have hlt := h.2.1.lt
  have hq0 := eq_nil (w.alloc (P109 p)) ⟨g, 0, none⟩ l.length c
  have H0 := Lib.hid (h.below ((Below.refl _ _).alloc (Nat.le_refl _) (P109 p)))
  have HZ0 : Hid (Blk (w.alloc (P109 p)) w.heap.size 109 #[.int .i64 p.1, .int .i64 p.2]) := Blk.new _ _ _
  have Hkk := Lib.hid hkk
  have Hpk := Lib.hid hpastk
  have hkn : kk = l.length := by exact hkk
  obtain ⟨n, hnn⟩ : ∃ n, l.length = n := ⟨_, rfl⟩
  rw [hnn] at c0 hq0 hn hkn ⊢
  have Hn := Lib.hid hnn
  clear h hnn hkk hpastk
  go_enter Tryd.func106, Tryd.ntmps106
  go_wp2
  generalize hw0 : w.alloc (.cells #[.int .i64 p.1, .int .i64 p.2] 109) = w0
  have HB0 : Hid (Below w.heap.size w w0) := by rw [← hw0]; exact (Below.refl _ _).alloc (Nat.le_refl _) _
  have H0' : Hid (IS w0 B b (.slice (some ⟨g, 0, none⟩) l.length c) l) := by rw [← hw0]; exact H0.out
  have HZ0' : Hid (Blk w0 w.heap.size 109 #[.int .i64 p.1, .int .i64 p.2]) := by rw [← hw0]; exact HZ0.out
  clear hw0 H0 HZ0 hq0 c0
  go_loopw [32] (fun s32 wr => ∃ k : Nat, k ≤ kk ∧ s32 = .int .i64 (k : Int) ∧ Below w0.heap.size w0 wr) (fun s32 _ => n - (intOf s32).toNat)
  case atStart => exact ⟨0, Nat.zero_le _, rfl, Below.refl _ _⟩
  case round =>
    obtain ⟨k, hk, rfl, hb⟩ := hrel
    have hIS := H0'.out.below hb
    have hZ := HZ0'.out.below hb HZ0'.out.lt
    have c0 : wr.cell? ⟨b, 0, none⟩ = some (.slice (some ⟨g, 0, none⟩) l.length c) := hIS.2.1.cell 0
    rw [Hn.out] at c0
    have z0 : wr.cell? ⟨w.heap.size, 0, none⟩ = some (.int .i64 p.1) := hZ.cell 0
    have z1 : wr.cell? ⟨w.heap.size, 1, none⟩ = some (.int .i64 p.2) := hZ.cell 1
    have hzl : w.heap.size < wr.heap.size := hZ.lt
    have hbl : b < wr.heap.size := hIS.2.1.lt
    have HB := Lib.hid hb
    have HI := Lib.hid hIS
    have HZ := Lib.hid hZ
    clear hb hIS hZ
    by_cases hlt2 : k < kk
    · have hltn : k < n := by omega
      obtain ⟨r, hr⟩ : ∃ r, l[k]? = some r := ⟨l[k]'(by rw [Hn.out]; exact hltn), List.getElem?_eq_getElem _⟩
      obtain ⟨g', eg, hg', d1, d2⟩ := HI.out.cells hr
      obtain rfl : g = g' := by injection eg with e; injection e
      obtain ⟨x1, x2, x3⟩ := Hpk.out k r hlt2 hr
      clear eg hr
      go_wp2
      go_roundw
      case rel => exact ⟨k + 1, by omega, rfl, below_al HB.out (Nat.le_refl _)⟩
      case measure =>
        simp [intOf]
        omega
    · obtain rfl : k = kk := by omega
      clear hk hlt2
      subst hkn
      obtain ⟨i0, hi0, hz0, hz1, hz2⟩ := info_parts info109b
      have HI3 : Hid (wr.ownsRow B 109 2 (.slice (some ⟨g, 0, none⟩) k c) k (rowI l)) := by have := HI.out.2.2.1; rw [Hn.out] at this; exact this
      have HI4 : Hid (Blk wr b 142 #[.slice (some ⟨g, 0, none⟩) k c, .bool false]) := by have := HI.out.2.1; rw [Hn.out] at this; exact this
      have hsz := HB.out.size
      have hsz0 := HB0.out.size
      have la : ∀ o : Obj, (wr.alloc o).cell? ⟨b, 0, none⟩ = some (.slice (some ⟨g, 0, none⟩) k c) := fun o => (HI4.out.alloc o).cell 0
      go_upto_region 22 with fail
      go_region_law (first
        | (refine step_append_lies _ (by rfl) (.tmp 182) (.tmp 184) 106 (by rfl) B 109 i0 _ 2 16 Tryd.underlying106 hi0 hz0 hz1 hz2 rfl (by omega) (.slice (some ⟨g, 0, none⟩) k c) k (rowI l) (by rfl) (by first | exact HI3.out.alloc _ | exact World.ownsRow.drew (HI3.out.alloc _)) ⟨wr.heap.size, 0, none⟩ 1 1 [.int .i64 p.1, .int .i64 p.2] (by rfl) (by rfl) (by first | exact cells_new wr [.int .i64 p.1, .int .i64 p.2] 109 _ rfl) (by intro u hu; simp at hu; rcases hu with rfl | rfl <;> rfl) (by omega) (by unfold maxLen; omega) (by omega) (by simp; omega) wr.heap.size.succ (by simp) ?_; intro gg cap w5 hown5 hgrow hat hltg; obtain ⟨c5, f5, hend⟩ := add_step HI4.out HI3.out (by first | exact hgrow | exact only_trans (only_drew (only_refl _ _)) hgrow) hown5; have HE := Lib.hid hend; have HA := Lib.hid hat; have HG : Hid ((wr.alloc (P109 p)).grownBy w5 (some g)) := (by first | exact hgrow | exact only_trans (only_drew (only_refl _ _)) hgrow); clear hend hat))
      all_goals go_end0
      all_goals
        refine ⟨rfl, _, ⟨HI.out.1, HE.out.1, ?_, ⟨(fun e => by injection e with e1; cases e1), (fun e => by cases (List.append_eq_nil_iff.1 e).2)⟩⟩, chg_app (below_tr HB0.out (Nat.le_refl _) HB.out) HG.out _, own_or (Nat.le_trans hsz0 hsz) HA.out⟩
        rw [rowI_append, List.length_append, Hn.out]
        exact HE.out.2
end Go.Proofs.YtiffjbpejlnndaaDoor
