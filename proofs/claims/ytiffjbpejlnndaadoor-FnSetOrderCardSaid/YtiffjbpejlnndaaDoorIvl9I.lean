/-
  A range is added to an interval set that has some: ahead of one that lies beyond it. Conditions: at most 1000 ranges.
-/
import Derived.Test.YtiffjbpejlnndaaDoorIvlQ
namespace Go.Proofs.YtiffjbpejlnndaaDoor
open Go.RowKit

theorem rowI_take : ∀ (l : List Rng) (k : Nat), rowI (l.take k) = (rowI l).take (k * 2)
  | [], k => by simp [rowI]
  | p :: l, 0 => by simp [rowI]
  | p :: l, k + 1 => by
    have e : ∀ (a : Rng) (m : List Rng), rowI (a :: m) = .int .i64 a.1 :: .int .i64 a.2 :: rowI m := fun _ _ => rfl
    rw [List.take_succ_cons, e, e, rowI_take l k, show (k + 1) * 2 = k * 2 + 1 + 1 by omega]
    rfl
theorem rowI_drop : ∀ (l : List Rng) (k : Nat), rowI (l.drop k) = (rowI l).drop (k * 2)
  | [], k => by simp [rowI]
  | p :: l, 0 => by simp [rowI]
  | p :: l, k + 1 => by
    have e : ∀ (a : Rng) (m : List Rng), rowI (a :: m) = .int .i64 a.1 :: .int .i64 a.2 :: rowI m := fun _ _ => rfl
    rw [List.drop_succ_cons, e, rowI_drop l k, show (k + 1) * 2 = k * 2 + 1 + 1 by omega]
    rfl
theorem add_off (g o j : Nat) : (⟨g, o, none⟩ : Addr).add j = ⟨g, o + j, none⟩ := by
  unfold Addr.add
  by_cases h : j = 0 <;> simp [h]
theorem rowI_one : ∀ (l : List Rng) (u : Value), u ∈ rowI l → u.oneCell' = true := by
  intro l u hu
  unfold rowI at hu
  simp only [List.mem_flatMap] at hu
  obtain ⟨p, _, hp⟩ := hu
  simp at hp
  rcases hp with rfl | rfl <;> rfl
/-- What the two appends of an insertion want. -/
structure InsPre (W : World) (B b g n c k : Nat) (l : List Rng) (p : Rng) : Prop where
  cap : n ≤ c
  capm : c ≤ maxLen
  own : (W.alloc (P109 p)).ownsRow B 109 2 (.slice (some ⟨W.heap.size, 0, none⟩) 1 1) 1 (rowI [p])
  tail : ∀ j u, (rowI (l.drop k))[j]? = some u → (W.alloc (P109 p)).cell? ((⟨g, k * 2, none⟩ : Addr).add j) = some u
  taill : (rowI (l.drop k)).length = (n - k) * 2
  head : (W.alloc (P109 p)).ownsRow B 109 2 (.slice (some ⟨g, 0, none⟩) k c) k (rowI (l.take k))
  blk : Blk (W.alloc (P109 p)) b 142 #[.slice (some ⟨g, 0, none⟩) n c, .bool false]
  ne : ¬ b = g
  glt : g < W.heap.size
  blt : b < W.heap.size
theorem ins_pre {W : World} {B b g n c k : Nat} {l : List Rng} (h : IS W B b (.slice (some ⟨g, 0, none⟩) n c) l) (hn : l.length = n) (hk : k < n) (hB : B ≤ W.heap.size) (p : Rng) : InsPre W B b g n c k l p := by
  have hne : ¬ b = g := fun e => own_ne h.2.2.1 h.2.1 (by decide) (by rw [e]; rfl)
  have hblt := h.2.1.lt
  have hblk := h.2.1
  obtain ⟨hlen, hor⟩ := h.2.2.1
  rcases hor with ⟨e, _⟩ | ⟨g', cap, cur, e, hb, hh, h1, h2, h3, h4⟩
  · injection e with e1
    cases e1
  · obtain rfl : g = g' := by injection e with e1; injection e1 with e1; injection e1
    obtain rfl : c = cap := by injection e
    rw [hn] at h1 h4
    have hglt : g < W.heap.size := by
      rcases Nat.lt_or_ge g W.heap.size with hlt | hge
      · exact hlt
      · rw [Array.getElem?_eq_none hge] at hh; cases hh
    refine ⟨h1, h2, ⟨rfl, .inr ⟨W.heap.size, 1, #[.int .i64 p.1, .int .i64 p.2], rfl, hB, Blk.new _ _ _, Nat.le_refl _, by decide, rfl, rfl⟩⟩, fun j u hu => ?_, ?_, ?_, hblk.alloc _, hne, hglt, hblt⟩
    · rw [add_off]
      have hW : (W.alloc (P109 p)).cell? ⟨g, k * 2 + j, none⟩ = W.cell? ⟨g, k * 2 + j, none⟩ := World.cell?_alloc_lt W _ ⟨g, k * 2 + j, none⟩ hglt
      rw [hW, cell_of_row W g (k * 2 + j) cur 109 (0, 0) hh]
      rw [rowI_drop, List.getElem?_drop, ← h4, List.getElem?_take] at hu
      split at hu
      · simpa using hu
      · cases hu
    · rw [rowI_length, List.length_drop, hn]
    · have hcut : W.ownsRow B 109 2 (.slice (some ⟨g, 0, none⟩) k c) k (rowI (l.take k)) := by
        refine ⟨by rw [rowI_length, List.length_take, hn]; omega, .inr ⟨g, c, cur, rfl, hb, hh, by omega, h2, h3, ?_⟩⟩
        rw [rowI_take, ← h4, List.take_take]
        congr 1
        omega
      exact hcut.alloc _
/-- Behind the first append of an insertion. -/
theorem ins_mid {W w5 : World} {B b g n c k g2 m cap2 : Nat} {l ys : List Rng} {p : Rng} (h : InsPre W B b g n c k l p) (hg : (W.alloc (P109 p)).grownBy w5 (some W.heap.size)) (h5 : w5.ownsRow B 109 2 (.slice (some ⟨g2, 0, none⟩) m cap2) m (rowI ys)) :
    Blk w5 b 142 #[.slice (some ⟨g, 0, none⟩) n c, .bool false] ∧ w5.ownsRow B 109 2 (.slice (some ⟨g, 0, none⟩) k c) k (rowI (l.take k)) ∧ W.heap.size < w5.heap.size ∧ (∀ j u, (rowI ys)[j]? = some u → w5.cell? ((⟨g2, 0, none⟩ : Addr).add j) = some u) := by
  have s := hg.size
  have s1 : (W.alloc (P109 p)).heap.size = W.heap.size + 1 := by simp
  have e1 := h.glt
  have e2 := h.blt
  exact ⟨h.blk.grown hg (fun e => by injection e; omega), h.head.kept hg (.inr (fun e => absurd (show g = W.heap.size by simpa [Value.ownBlock] using e) (by omega))), by omega, h5.cells rfl⟩
/-- Behind the second one. -/
theorem ins_end {w5 w7 : World} {B b g n c g3 m cap3 : Nat} {ys : List Rng} (hne : ¬ b = g) (hb : Blk w5 b 142 #[.slice (some ⟨g, 0, none⟩) n c, .bool false]) (hg : w5.grownBy w7 (some g)) (h7 : w7.ownsRow B 109 2 (.slice (some ⟨g3, 0, none⟩) m cap3) m (rowI ys)) :
    w7.cell? ⟨b, 0, none⟩ = some (.slice (some ⟨g, 0, none⟩) n c) ∧ w7.frozen? ⟨b, 0, none⟩ = false
      ∧ Blk (w7.setCell ⟨b, 0, none⟩ (.slice (some ⟨g3, 0, none⟩) m cap3)) b 142 #[.slice (some ⟨g3, 0, none⟩) m cap3, .bool false] ∧ (w7.setCell ⟨b, 0, none⟩ (.slice (some ⟨g3, 0, none⟩) m cap3)).ownsRow B 109 2 (.slice (some ⟨g3, 0, none⟩) m cap3) m (rowI ys) := by
  have hb7 := hb.grown hg (fun e => hne (by injection e))
  exact ⟨hb7.cell 0, hb7.frozen 0, by simpa using hb7.set_ 0 (.slice (some ⟨g3, 0, none⟩) m cap3), own_far h7 hb7 (by decide) 0 _⟩
theorem chg_ins {w W w5 w7 : World} {o : Obj} {b g n c : Nat} (hb : Below w.heap.size w W) (hg5 : (W.alloc o).grownBy w5 (some W.heap.size)) (hg7 : w5.grownBy w7 (some g)) (v : Value) : Chg w (w7.setCell ⟨b, 0, none⟩ v) b (.slice (some ⟨g, 0, none⟩) n c) := by
  have e1 := hb.size
  have e2 := hg5.size
  have e3 := hg7.size
  have s1 : (W.alloc o).heap.size = W.heap.size + 1 := by simp
  refine ⟨hg7.os.trans (hg5.os.trans hb.os), hg7.tape.trans (hg5.tape.trans hb.tape), hg7.output.trans (hg5.output.trans hb.output), by simp [World.setCell]; omega, fun i hi hne hv => ?_⟩
  exact (Below.heap_setCell w7 ⟨b, 0, none⟩ v i hne).trans ((hg7.block i (by omega) (fun e => hv (by rw [e]; rfl))).trans ((hg5.block i (by omega) (fun e => by injection e; omega)).trans ((Below.heap_alloc W o i (by omega)).trans (hb.block i hi))))
set_option maxRecDepth 100000 in
set_option maxHeartbeats 4000000 in
theorem add_insert (w : World) (B b g c kk : Nat) (l : List Rng) (p q : Rng) (h : IS w B b (.slice (some ⟨g, 0, none⟩) l.length c) l) (hBw : B ≤ w.heap.size) (hn : l.length ≤ 1000) (hkk : l[kk]? = some q) (hpastk : Past l p kk) (x1 : p.2 < q.1) :
    Calls Tryd.prog 106 #[.pointer (some ⟨b, 0, none⟩), .agg #[.int .i64 p.1, .int .i64 p.2]] w (AddPost w B b (.slice (some ⟨g, 0, none⟩) l.length c) (l.take kk ++ p :: l.drop kk)) := by
  have c0 : w.cell? ⟨b, 0, none⟩ = some (.slice (some ⟨g, 0, none⟩) l.length c) := h.2.1.cell 0
  have hlt := h.2.1.lt
  have hgw : g < w.heap.size := (h.2.2.1.lt g rfl).2
  have hq0 := eq_nil (w.alloc (P109 p)) ⟨g, 0, none⟩ l.length c
  have H0 := Lib.hid (h.below ((Below.refl _ _).alloc (Nat.le_refl _) (P109 p)))
  have HZ0 : Hid (Blk (w.alloc (P109 p)) w.heap.size 109 #[.int .i64 p.1, .int .i64 p.2]) := Blk.new _ _ _
  have Hkk := Lib.hid hkk
  have Hpk := Lib.hid hpastk
  have X1 := Lib.hid x1
  clear x1
  have hkn : kk < l.length := by exact at_lt hkk
  obtain ⟨n, hnn⟩ : ∃ n, l.length = n := ⟨_, rfl⟩
  rw [hnn] at c0 hq0 hn hkn ⊢
  have Hn := Lib.hid hnn
  clear h hnn hkk hpastk
  go_enter Tryd.func106, Tryd.ntmps106
  go_wp2
  generalize hw0 : w.alloc (.cells #[.int .i64 p.1, .int .i64 p.2] 109) = w0
  have HB0 : Hid (Below w.heap.size w w0) := by rw [← hw0]; exact (Below.refl _ _).alloc (Nat.le_refl _) _
  have H0' : Hid (IS w0 B b (.slice (some ⟨g, 0, none⟩) l.length c) l) := by rw [← hw0]; exact H0.out
  have HZ0' : Hid (Blk w0 w.heap.size 109 #[.int .i64 p.1, .int .i64 p.2]) := by rw [← hw0]; exact HZ0.out
  clear hw0 H0 HZ0 hq0 c0
  go_loopw [32] (fun s32 wr => ∃ k : Nat, k ≤ kk ∧ s32 = .int .i64 (k : Int) ∧ Below w0.heap.size w0 wr) (fun s32 _ => n - (intOf s32).toNat)
  case atStart => exact ⟨0, Nat.zero_le _, rfl, Below.refl _ _⟩
  case round =>
    obtain ⟨k, hk, rfl, hb⟩ := hrel
    have hIS := H0'.out.below hb
    have hZ := HZ0'.out.below hb HZ0'.out.lt
    have c0 : wr.cell? ⟨b, 0, none⟩ = some (.slice (some ⟨g, 0, none⟩) l.length c) := hIS.2.1.cell 0
    rw [Hn.out] at c0
    have z0 : wr.cell? ⟨w.heap.size, 0, none⟩ = some (.int .i64 p.1) := hZ.cell 0
    have z1 : wr.cell? ⟨w.heap.size, 1, none⟩ = some (.int .i64 p.2) := hZ.cell 1
    have hzl : w.heap.size < wr.heap.size := hZ.lt
    have hbl : b < wr.heap.size := hIS.2.1.lt
    have HB := Lib.hid hb
    have HI := Lib.hid hIS
    have HZ := Lib.hid hZ
    clear hb hIS hZ
    by_cases hlt2 : k < kk
    · have hltn : k < n := by omega
      obtain ⟨r, hr⟩ : ∃ r, l[k]? = some r := ⟨l[k]'(by rw [Hn.out]; exact hltn), List.getElem?_eq_getElem _⟩
      obtain ⟨g', eg, hg', d1, d2⟩ := HI.out.cells hr
      obtain rfl : g = g' := by injection eg with e; injection e
      obtain ⟨x1, x2, x3⟩ := Hpk.out k r hlt2 hr
      clear eg hr
      go_wp2
      go_roundw
      case rel => exact ⟨k + 1, by omega, rfl, below_al HB.out (Nat.le_refl _)⟩
      case measure =>
        simp [intOf]
        omega
    · obtain rfl : k = kk := by omega
      clear hk hlt2
      obtain ⟨g', eg, hg', d1, d2⟩ := HI.out.cells Hkk.out
      obtain rfl : g = g' := by injection eg with e; injection e
      clear eg
      have x1 := X1.out
      obtain ⟨i0, hi0, hz0, hz1, hz2⟩ := info_parts info109b
      have hi1 := HI.out.below ((Below.refl _ _).alloc (Nat.le_refl _) (P109 q))
      have hZ1 := HZ.out.alloc (P109 q)
      have HB1 := Lib.hid (below_tr HB0.out (Nat.le_refl _) (below_al HB.out (Nat.le_refl _) (o := P109 q)))
      rw [Hn.out] at hi1
      have hBW : B ≤ (wr.alloc (P109 q)).heap.size := Nat.le_trans hBw HB1.out.size
      go_upto_region 8 with fail
      clear c0 z0 z1 hzl hbl d1 d2 HB HI HZ hg'
      generalize (wr.alloc (.cells #[.int .i64 q.1, .int .i64 q.2] 109)) = w1 at hi1 hZ1 HB1 hBW ⊢
      have hip := ins_pre hi1 Hn.out hkn hBW p
      have c0 : w1.cell? ⟨b, 0, none⟩ = some (.slice (some ⟨g, 0, none⟩) n c) := hi1.2.1.cell 0
      have z0 : w1.cell? ⟨w.heap.size, 0, none⟩ = some (.int .i64 p.1) := hZ1.cell 0
      have z1 : w1.cell? ⟨w.heap.size, 1, none⟩ = some (.int .i64 p.2) := hZ1.cell 1
      have la : ∀ o : Obj, (w1.alloc o).cell? ⟨b, 0, none⟩ = some (.slice (some ⟨g, 0, none⟩) n c) := fun o => (Blk.alloc hi1.2.1 o).cell 0
      have hcap := hip.cap
      have hkc : ¬ c = k := by omega
      have hkc1 : k ≤ c := by omega
      have hkc2 : k ≤ n := by omega
      have hbg := hip.ne
      have hgl := hip.glt
      have hbl := hip.blt
      have HT : Hid ((rowI ([p] ++ l.drop k)).length = (1 + (n - k)) * 2) := by rw [rowI_append, List.length_append, hip.taill]; show 2 + _ = _; omega
      have HP := Lib.hid hip
      have HI1 := Lib.hid hi1
      clear hip hi1 hZ1
      go_region_law (first
        | (refine step_append_lies _ (by rfl) (.tmp 50) (.tmp 56) 106 (by rfl) B 109 i0 _ 2 16 Tryd.underlying106 hi0 hz0 hz1 hz2 rfl (by omega) (.slice (some ⟨w1.heap.size, 0, none⟩) 1 1) 1 (rowI [p]) (by rfl) HP.out.own ⟨g, k * 2, none⟩ (n - k) (c - k) (rowI (l.drop k)) (by rfl) HP.out.taill HP.out.tail (rowI_one _) (by omega) (by unfold maxLen; omega) (by omega) (by simp; omega) w1.heap.size.succ (by simp) ?_; intro g2 cap2 w5 hown5 hgrow5 hat5 hlt5; rw [← rowI_append] at hown5; have hg5 : (w1.alloc (P109 p)).grownBy w5 (some w1.heap.size) := (by first | exact hgrow5 | exact only_trans (only_drew (only_refl _ _)) hgrow5); obtain ⟨m1, m2, m3, m4⟩ := ins_mid HP.out hg5 hown5; have c5 : w5.cell? ⟨b, 0, none⟩ = some (.slice (some ⟨g, 0, none⟩) n c) := m1.cell 0; have M1 := Lib.hid m1; have M2 := Lib.hid m2; have M4 := Lib.hid m4; have G5 := Lib.hid hg5; clear hown5 hgrow5 hat5 m1 m2 m4 hg5)
        | (refine step_append_lies _ (by rfl) (.tmp 48) (.tmp 57) 106 (by rfl) B 109 i0 _ 2 16 Tryd.underlying106 hi0 hz0 hz1 hz2 rfl (by omega) (.slice (some ⟨g, 0, none⟩) k c) k (rowI (l.take k)) (by rfl) M2.out ⟨g2, 0, none⟩ (1 + (n - k)) cap2 (rowI ([p] ++ l.drop k)) (by rfl) HT.out M4.out (rowI_one _) (by omega) (by unfold maxLen; omega) (by omega) (by omega) w5.heap.size rfl ?_; intro g3 cap3 w7 hown7 hgrow7 hat7 hlt7; rw [← rowI_append] at hown7; obtain ⟨c7, f7, e7, e8⟩ := ins_end HP.out.ne M1.out hgrow7 hown7; have E7 := Lib.hid e7; have E8 := Lib.hid e8; have A7 := Lib.hid hat7; have G7 := Lib.hid hgrow7; clear hown7 hgrow7 hat7 e7 e8))
      all_goals (try go_wp2)
      all_goals go_end0
      all_goals
        have hll : (l.take k ++ p :: l.drop k).length = k + (1 + (n - k)) := by
          rw [List.length_append, List.length_cons, List.length_take, List.length_drop, Hn.out]
          omega
        have hs1 := HB1.out.size
        refine ⟨rfl, _, ⟨HI1.out.1, E7.out, ?_, ⟨(fun e => by injection e with e1; cases e1), (fun e => by cases (List.append_eq_nil_iff.1 e).2)⟩⟩, chg_ins HB1.out G5.out G7.out _, ?_⟩
        · rw [hll]
          exact E8.out
        · rcases A7.out with h | h
          · exact .inl h.symm
          · exact .inr ⟨g3, rfl, by omega⟩
end Go.Proofs.YtiffjbpejlnndaaDoor
