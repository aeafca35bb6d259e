/-
  impl.Sets: the steps. Conditions: steps that the specification asks.
-/
import Derived.Test.YtiffjbpejlnndaaDoorImp2
namespace Go.Proofs.YtiffjbpejlnndaaDoor
open Go.RowKit

theorem zero101 : (∀ w, (zeroValue 101).run Tryd.prog w = .ok (.agg #[.pointer none, .pointer none, .pointer none, .pointer none]) w) ∧ (Tryd.prog.info? 101).map (·.size) = some 4 := zero_of_info (by kernel_rfl)
theorem idx101_0 (W : World) (bs : Nat → Nat) : (Instr.index 101 (.agg #[.pointer (some ⟨bs 0, 0, none⟩), .pointer (some ⟨bs 1, 0, none⟩), .pointer (some ⟨bs 2, 0, none⟩), .pointer (some ⟨bs 3, 0, none⟩)]) (.int .i64 0)).run Tryd.prog W = .ok (.agg #[.pointer (some ⟨bs 0, 0, none⟩)]) W := by kernel_rfl
theorem idx101_1 (W : World) (bs : Nat → Nat) : (Instr.index 101 (.agg #[.pointer (some ⟨bs 0, 0, none⟩), .pointer (some ⟨bs 1, 0, none⟩), .pointer (some ⟨bs 2, 0, none⟩), .pointer (some ⟨bs 3, 0, none⟩)]) (.int .i64 1)).run Tryd.prog W = .ok (.agg #[.pointer (some ⟨bs 1, 0, none⟩)]) W := by kernel_rfl
theorem idx101_2 (W : World) (bs : Nat → Nat) : (Instr.index 101 (.agg #[.pointer (some ⟨bs 0, 0, none⟩), .pointer (some ⟨bs 1, 0, none⟩), .pointer (some ⟨bs 2, 0, none⟩), .pointer (some ⟨bs 3, 0, none⟩)]) (.int .i64 2)).run Tryd.prog W = .ok (.agg #[.pointer (some ⟨bs 2, 0, none⟩)]) W := by kernel_rfl
theorem idx101_3 (W : World) (bs : Nat → Nat) : (Instr.index 101 (.agg #[.pointer (some ⟨bs 0, 0, none⟩), .pointer (some ⟨bs 1, 0, none⟩), .pointer (some ⟨bs 2, 0, none⟩), .pointer (some ⟨bs 3, 0, none⟩)]) (.int .i64 3)).run Tryd.prog W = .ok (.agg #[.pointer (some ⟨bs 3, 0, none⟩)]) W := by kernel_rfl
theorem idx101 (W : World) (bs : Nat → Nat) {k : Nat} (h : k < 4) :
    (Instr.index 101 (.agg #[.pointer (some ⟨bs 0, 0, none⟩), .pointer (some ⟨bs 1, 0, none⟩), .pointer (some ⟨bs 2, 0, none⟩), .pointer (some ⟨bs 3, 0, none⟩)]) (.int .i64 (k : Int))).run Tryd.prog W = .ok (.agg #[.pointer (some ⟨bs k, 0, none⟩)]) W := by
  match k, h with
  | 0, _ => exact idx101_0 W bs
  | 1, _ => exact idx101_1 W bs
  | 2, _ => exact idx101_2 W bs
  | 3, _ => exact idx101_3 W bs
theorem and3 {i : Nat} (h : i < 4) : bits BinOp.and IntKind.i64 (i : Int) 3 = (i : Int) := by
  match i, h with
  | 0, _ => rfl
  | 1, _ => rfl
  | 2, _ => rfl
  | 3, _ => rfl
set_option maxRecDepth 100000 in
set_option maxHeartbeats 4000000 in
theorem sets_any (w : World) (U : Nat) (A A2 : Option Addr) (c c2 : Nat) (l : List Stp) (asks : List Int) (G : Nat → List Rng) (h : StepsAt w U A l) (h2 : IntsAt w U A2 asks) (hU : U ≤ w.heap.size) (hn : l.length ≤ 1000) (hm : asks.length ≤ 1000) (hG : stepsP F0 l = some G) (hT : Tabs w) :
    Calls Tryd.prog 30 #[.slice A l.length c, .slice A2 asks.length c2] w (SetsTold w G asks) := by
  have H := Lib.hid h
  have H2 := Lib.hid h2
  have HG := Lib.hid hG
  have HT := Lib.hid hT
  obtain ⟨n, hnn⟩ : ∃ n, l.length = n := ⟨_, rfl⟩
  obtain ⟨m, hmm⟩ : ∃ m, asks.length = m := ⟨_, rfl⟩
  rw [hnn] at hn ⊢
  rw [hmm] at hm ⊢
  have Hn := Lib.hid hnn
  have Hm := Lib.hid hmm
  have hfs := FS.start w
  clear h h2 hG hT hnn hmm
  go_enter Tryd.func30, Tryd.ntmps30
  go_wp2
  generalize (w.alloc (.cells #[.pointer none, .pointer none, .pointer none, .pointer none] 101)) = w0 at hfs ⊢
  generalize hz : w.heap.size = z at hfs ⊢
  have Hz := Lib.hid hz
  have HFS := Lib.hid hfs
  clear hfs hz
  go_loopw [18] (fun s18 wr => ∃ (k : Nat) (bs : Nat → Nat) (vs : Nat → Value), k ≤ 4 ∧ s18 = .int .i64 (k : Int) ∧ FS w z k bs vs F0 wr) (fun s18 _ => 4 - (intOf s18).toNat)
  case atStart => exact ⟨0, _, _, Nat.zero_le _, rfl, HFS.out⟩
  case round =>
    obtain ⟨k, bs, vs, hk, rfl, hfs⟩ := hrel
    have HFS1 := Lib.hid hfs
    clear hfs
    by_cases hlt : k < 4
    · go_wp2_with (go_at_call 50; go_fit (zsnew _); rintro e w2 ⟨b, rfl, hb, hs, hb1, hb2⟩; have HB := Lib.hid hb; have HS := Lib.hid hs; have hz2 := (HFS1.out.keep hb).blk; have c1 := hz2.cell k; rw [ptrs_at k bs hlt] at c1; have f1 := hz2.frozen k; clear hb hs hz2)
      have HN := Lib.hid (HFS1.out.new hlt HB.out HS.out)
      clear c1 f1
      go_roundw
      case rel => exact ⟨k + 1, _, _, by omega, rfl, HN.out⟩
      case measure =>
        simp [intOf]
        omega
    · obtain rfl : k = 4 := by omega
      clear hk hlt
      rw [show ((4 : Nat) : Int) = 4 from rfl]
      go_wp2
      go_loopw [27] (fun s27 wr => ∃ (k : Nat) (vs : Nat → Value) (F : Nat → List Rng), k ≤ n ∧ s27 = .int .i64 (k : Int) ∧ Hid (stepsP F0 (l.take k) = some F) ∧ FS w z 4 bs vs F wr) (fun s27 _ => n - (intOf s27).toNat)
      case atStart => exact ⟨0, vs, F0, Nat.zero_le _, rfl, rfl, HFS1.out⟩
      case round =>
        obtain ⟨k, vs, F, hk, rfl, hF, hfs⟩ := hrel
        have HFS2 := Lib.hid hfs
        by_cases hlt : k < n
        · obtain ⟨s, hs⟩ : ∃ s, l[k]? = some s := ⟨l[k]'(by rw [Hn.out]; exact hlt), List.getElem?_eq_getElem _⟩
          obtain ⟨K, hK, hF2⟩ := steps_some hs hF.out HG.out
          obtain ⟨si, x, e1, hsi, rfl, hcases⟩ := stepP_some hK
          obtain ⟨ad, rfl, had, d0, d1, d2, d3⟩ := (H.out.below hfs.below hU).at_ hs
          obtain ⟨op, st, sa, sb⟩ := s
          obtain rfl : st = (si : Int) := e1
          have HF2 := Lib.hid hF2
          have hao := stepsP_ok (l.take k) allOk_F0 hF.out
          have HAO := Lib.hid hao
          have cz := hfs.cell (i := si) hsi hsi
          have hzl := hfs.blk.lt
          have ha3 := and3 hsi
          clear hs hF2 hK hfs hao
          go_upto_region 11 with fail
          have hfs1 := (HFS2.out.alloc (.cells #[.int .u8 (op : Int), .int .i64 (si : Int), .int .i64 sa, .int .i64 sb] 95)).alloc (P100 (bs si))
          have hb95 := (Blk.new wr 95 #[.int .u8 (op : Int), .int .i64 (si : Int), .int .i64 sa, .int .i64 sb]).alloc (P100 (bs si))
          have hb100 := Blk.new (wr.alloc (.cells #[.int .u8 (op : Int), .int .i64 (si : Int), .int .i64 sa, .int .i64 sb] 95)) 100 #[.pointer (some ⟨bs si, 0, none⟩)]
          rw [show (wr.alloc (.cells #[.int .u8 (op : Int), .int .i64 (si : Int), .int .i64 sa, .int .i64 sb] 95)).heap.size = wr.heap.size + 1 by simp] at hb100
          generalize ((wr.alloc (.cells #[.int .u8 (op : Int), .int .i64 (si : Int), .int .i64 sa, .int .i64 sb] 95)).alloc (.cells #[.pointer (some ⟨bs si, 0, none⟩)] 100)) = w1 at hfs1 hb95 hb100 ⊢
          generalize wr.heap.size + 1 = zx at hb100 ⊢
          generalize wr.heap.size = zb at hb95 hzl ⊢
          have z0 : w1.cell? ⟨zb, 0, none⟩ = some (.int .u8 (op : Int)) := hb95.cell 0
          have z1 : w1.cell? ⟨zb, 1, none⟩ = some (.int .i64 (si : Int)) := hb95.cell 1
          have z2 : w1.cell? ⟨zb, 2, none⟩ = some (.int .i64 sa) := hb95.cell 2
          have z3 : w1.cell? ⟨zb, 3, none⟩ = some (.int .i64 sb) := hb95.cell 3
          have zp : w1.cell? ⟨zx, 0, none⟩ = some (.pointer (some ⟨bs si, 0, none⟩)) := hb100.cell 0
          have hsz := hfs1.below.size
          have hls := (HAO.out si)
          have HIS := Lib.hid (hfs1.is si hsi)
          have HFS3 := Lib.hid hfs1
          clear hfs1 hb95 hb100 cz d0 d1 d2 d3 had hzl ha3 hF
          rcases hcases with ⟨ho, hm1⟩ | ⟨ho, hm1⟩ | ⟨ho, ai, ha, hai, hne, hm1⟩
          · obtain rfl : op = 0 := ho
            have hc := zsaddOne w1 w.heap.size (bs si) (vs si) (F si) x sa HIS.out hsz hls hm1
            have HC := Lib.hid hc
            clear hc hm1 hls
            go_wp2_with (go_at_call 51; go_fit HC.out; rintro e w2 ⟨rfl, v', hv⟩; have HN := Lib.hid (HFS3.out.grow hsi hv); clear hv)
            go_roundw
            case rel => exact ⟨k + 1, _, _, by omega, rfl, HF2, HN.out⟩
            case measure =>
              simp [intOf]
              omega
          · obtain rfl : op = 1 := ho
            have hc := zsaddRange w1 w.heap.size (bs si) (vs si) (F si) x sa sb HIS.out hsz hls hm1
            have HC := Lib.hid hc
            clear hc hm1 hls
            go_wp2_with (go_at_call 52; go_fit HC.out; rintro e w2 ⟨rfl, v', hv⟩; have HN := Lib.hid (HFS3.out.grow hsi hv); clear hv)
            go_roundw
            case rel => exact ⟨k + 1, _, _, by omega, rfl, HF2, HN.out⟩
            case measure =>
              simp [intOf]
              omega
          · obtain rfl : op = 2 := ho
            obtain rfl : sa = (ai : Int) := ha
            have hc := zsaddSet w1.drew w.heap.size (bs si) (bs ai) (vs si) (vs ai) (F si) (F ai) x (HFS3.out.drew.is si hsi) (HFS3.out.drew.is ai hai) (HFS3.out.apart si ai hsi hai (fun e => hne e.symm)) hsz hls (HAO.out ai) hm1
            have HC := Lib.hid hc
            have ca := HFS3.out.cell (i := ai) hai hai
            have ha3 := and3 hai
            have hai4 : (ai : Int) < 4 := by omega
            clear hc hm1 hls
            go_upto_region 17 with fail
            go_region_law (first
              | (go_simp; go_at_call 53; go_fit HC.out; rintro e w2 ⟨rfl, v', hv⟩; have HN := Lib.hid (HFS3.out.drew.grow hsi hv); clear hv))
            all_goals go_wp2
            all_goals go_roundw
            all_goals first
              | exact ⟨k + 1, _, _, by omega, rfl, HF2, HN.out⟩
              | (simp [intOf]; omega)
        · have hkn : k = n := by omega
          subst hkn
          have hall := hF.out
          rw [List.take_of_length_le (by rw [Hn.out]; exact Nat.le_refl _), HG.out] at hall
          injection hall with hall
          subst hall
          have c0 := hfs.cell (i := 0) (by omega) (by omega)
          have c1 := hfs.cell (i := 1) (by omega) (by omega)
          have c2 := hfs.cell (i := 2) (by omega) (by omega)
          have c3 := hfs.cell (i := 3) (by omega) (by omega)
          clear hF hfs hlt
          go_upto_region 22 with fail
          have HAO := Lib.hid (stepsP_ok l allOk_F0 HG.out)
          clear c0 c1 c2 c3
          go_loopw [4, 75] (fun s4 s75 wr => ∃ k : Nat, k ≤ 4 ∧ s75 = .int .i64 (k : Int) ∧ FS w z 4 bs vs G wr ∧ Told w G asks k s4 wr) (fun _ s75 _ => 4 - (intOf s75).toNat)
          case atStart => exact ⟨0, Nat.zero_le _, rfl, HFS2.out, fun _ => undef, fun _ => undef, World.ownsRow_nil _ _ _ _, fun j hj => absurd hj (Nat.not_lt_zero j)⟩
          case round =>
            obtain ⟨k, hk, rfl, hfs, htd⟩ := hrel
            obtain ⟨v, rfl⟩ : ∃ v, v = wr := ⟨wr, rfl⟩
            obtain ⟨hs0, rs0, ho0, ho1⟩ := htd
            obtain ⟨A4, c4, rfl⟩ := own_slice ho0
            have htd : Told w G asks k (.slice A4 k c4) v := ⟨hs0, rs0, ho0, ho1⟩
            clear ho0 ho1
            by_cases hlt : k < 4
            · have hi := hfs.is k hlt
              have hix := idx101 v bs hlt
              have HI := Lib.hid hi
              have HFS3 := Lib.hid hfs
              have HTD := Lib.hid htd
              clear hi hfs htd
              go_upto_region 24 with fail
              have HTV := Lib.hid (HT.out.below HFS3.out.below)
              have T0 := Lib.hid (TX.start v (bs k))
              generalize hwc : (v.alloc (.cells #[.pointer (some ⟨bs k, 0, none⟩)] 100)) = wc
              rw [hwc] at T0
              clear hwc hix
              go_cut [13] (fun s13 wx => ∃ g : Nat, s13 = .pointer (some ⟨g, 0, none⟩) ∧ v.heap.size < g ∧ Blk wx g 60 #[.slice none 0 0, .int .i64 (lenR (G k)), .int .i64 (leastI (G k)), .slice none 0 0, .string (textI (G k))] ∧ TX v (bs k) wx)
              case first =>
                have c1 := T0.out.cell
                have n1 := T0.out.ne
                have n1' := T0.out.ne'
                go_region_held3 (fun W => W.cell? ⟨v.heap.size, 0, none⟩ = some (.pointer (some ⟨bs k, 0, none⟩)))
                  (first | go_keep | (simp [*]))
                  (first
                    | (go_at_call 55; go_fit (zslength _ w.heap.size (bs k) (vs k) (G k) (IS.below HI.out (TX.below (by repeat (first | exact T0.out | exact T2.out | exact T3.out | exact T4.out | apply TX.drew | apply TX.alloc)))) (HAO.out k)); rintro e w2 ⟨rfl, hb⟩; have T2 := Lib.hid (TX.step (by repeat (first | exact T0.out | exact T2.out | exact T3.out | exact T4.out | apply TX.drew | apply TX.alloc)) hb); have cT2 := T2.out.cell; have nT2 := T2.out.ne; have nT2' := T2.out.ne'; (try (have ZA2 : Hid (Blk w2 wc.heap.size 60 Z60c) := (by first | exact zblk6 hb | exact zblk6d hb); obtain ⟨k0, k1, k2, k3, k4, e0, e1, e2, e3, e4⟩ := cells5 ZA2.out)); clear hb)
                    | (go_at_call 56; go_fit (zsfirst _ w.heap.size (bs k) (vs k) (G k) (IS.below HI.out (TX.below (by repeat (first | exact T0.out | exact T2.out | exact T3.out | exact T4.out | apply TX.drew | apply TX.alloc)))) (HAO.out k)); rintro e w3 ⟨rfl, hb⟩; have T3 := Lib.hid (TX.step (by repeat (first | exact T0.out | exact T2.out | exact T3.out | exact T4.out | apply TX.drew | apply TX.alloc)) hb); have cT3 := T3.out.cell; have nT3 := T3.out.ne; have nT3' := T3.out.ne'; ((try (have ZB3 : Hid (Blk w3 w2.heap.size 60 Z60c) := (by first | exact zblk6 hb | exact zblk6d hb); obtain ⟨k0, k1, k2, k3, k4, e0, e1, e2, e3, e4⟩ := cells5 ZB3.out)); (try (have ZA3 := Lib.hid (ZA2.out.below hb ZA2.out.lt); obtain ⟨k0, k1, k2, k3, k4, e0, e1, e2, e3, e4⟩ := cells5 ZA3.out))); clear hb)
                    | (go_at_call 57; go_fit (zstext2 _ w.heap.size (bs k) (vs k) (G k) (IS.below HI.out (TX.below (by repeat (first | exact T0.out | exact T2.out | exact T3.out | exact T4.out | apply TX.drew | apply TX.alloc)))) (HAO.out k) (HTV.out.below (TX.below (by repeat (first | exact T0.out | exact T2.out | exact T3.out | exact T4.out | apply TX.drew | apply TX.alloc))))); rintro e w4 ⟨rfl, hb⟩; have T4 := Lib.hid (TX.step (by repeat (first | exact T0.out | exact T2.out | exact T3.out | exact T4.out | apply TX.drew | apply TX.alloc)) hb); have cT4 := T4.out.cell; have nT4 := T4.out.ne; have nT4' := T4.out.ne'; ((try (have ZC4 : Hid (Blk w4 w3.heap.size 60 Z60c) := (by first | exact zblk6 hb | exact zblk6d hb); obtain ⟨k0, k1, k2, k3, k4, e0, e1, e2, e3, e4⟩ := cells5 ZC4.out)); (try (have ZB4 := Lib.hid (ZB3.out.below hb ZB3.out.lt); obtain ⟨k0, k1, k2, k3, k4, e0, e1, e2, e3, e4⟩ := cells5 ZB4.out)); (try (have ZA4 := Lib.hid (ZA3.out.below hb ZA3.out.lt); obtain ⟨k0, k1, k2, k3, k4, e0, e1, e2, e3, e4⟩ := cells5 ZA4.out))); clear hb))
                all_goals go_wp2_with fail
                all_goals go_meet
                all_goals first
                  | exact ⟨wc.heap.size, rfl, T0.out.lt, blk5 ZA4.out _ _ _ _, T4.out.set5 T0.out.lt _ _ _ _ _⟩
                  | exact ⟨w2.heap.size, rfl, T2.out.lt, blk5 ZB4.out _ _ _ _, T4.out.set5 T2.out.lt _ _ _ _ _⟩
                  | exact ⟨w3.heap.size, rfl, T3.out.lt, blk5 ZC4.out _ _ _ _, T4.out.set5 T3.out.lt _ _ _ _ _⟩
                  | exact ⟨w4.heap.size, rfl, T4.out.lt, Blk.new _ _ _, T4.out.alloc _⟩
              case rest =>
                obtain ⟨g, rfl, hgv, hz, ht⟩ := hcut
                have hwsz := HFS3.out.below.size
                obtain ⟨i0, hi0, hz0, hz1, hz2⟩ := info_parts info4
                obtain ⟨j0, hj0, hy0, hy1, hy2⟩ := info_parts info62
                generalize hll : Value.int .i64 (lenR (G k)) = ln at hz
                generalize hle : Value.int .i64 (leastI (G k)) = le at hz
                generalize hte : Value.string (textI (G k)) = tx at hz
                have Hll := Lib.hid hll
                have Hle := Lib.hid hle
                have Hte := Lib.hid hte
                have HZ := Lib.hid hz
                have HX := Lib.hid ht
                clear hll hle hte hz ht T0
                go_wp2
                go_loopw [87] (fun s87 wx => ∃ (q : Nat) (hv : Value), q ≤ m ∧ s87 = .int .i64 (q : Int) ∧ TX v (bs k) wx ∧ Blk wx g 60 #[hv, ln, le, .slice none 0 0, tx] ∧ wx.ownsRow v.heap.size 4 1 hv q (hasI (G k) (asks.take q))) (fun s87 _ => m - (intOf s87).toNat)
                case atStart => exact ⟨0, _, Nat.zero_le _, rfl, HX.out, HZ.out, World.ownsRow_nil _ _ _ _⟩
                case round =>
                  obtain ⟨q, hv, hq, rfl, ht, hz, hown⟩ := hrel
                  by_cases hlt2 : q < m
                  · have hbw := below_tr HFS3.out.below (Nat.le_refl _) ht.1
                    obtain ⟨u, hu, a, rfl, hab, cx⟩ := ints_round (H2.out.below hbw hU) (by rw [Hm.out]; exact hlt2)
                    obtain ⟨k0, k1, k2, k3, k4, f0, f1, f2, f3, f4⟩ := cells5 hz
                    have cb := ht.cell
                    have ng : ¬ g = v.heap.size := by omega
                    have ng' : ¬ v.heap.size = g := by omega
                    have Hu := Lib.hid hu
                    have HX1 := Lib.hid ht
                    have HZ1 := Lib.hid hz
                    have HO1 := Lib.hid hown
                    obtain ⟨y, hy⟩ : ∃ y, memB (G k) u = y := ⟨_, rfl⟩
                    have Hy := Lib.hid hy
                    clear hu ht hz hown hy hbw
                    go_upto_region 28 with fail
                    go_region_law (first
                      | (refine step_append_lies _ (by rfl) (.tmp 92) (.tmp 96) 41 (by rfl) v.heap.size 4 i0 _ 1 1 Tryd.underlying41 hi0 hz0 hz1 hz2 rfl (by omega) hv q (hasI (G k) (asks.take q)) (by rfl) (HO2.out.alloc _) ⟨w2.heap.size, 0, none⟩ 1 1 [.bool y] (by rfl) (by rfl) (cells_new w2 [.bool y] 4 _ rfl) (one_bool _) (by omega) (by unfold maxLen; omega) (by omega) (size_al X2.out.1 _) w2.heap.size.succ (by simp) ?_; intro gg cap w3 hown3 hgrow hat hltg; obtain ⟨c3, f3', cb3, hend⟩ := has_step HO2.out X2.out HZ2.out hgv hgrow hown3; have HE := Lib.hid hend; clear hend hown3 hgrow hat)
                      | (go_simp; go_at_call 58; go_fit (zscontains _ w.heap.size (bs k) (vs k) (G k) u (IS.below HI.out (by first | exact HX1.out.1 | exact HX1.out.1.drew)) (HAO.out k)); rw [Hy.out]; rintro e w2 ⟨rfl, hb⟩; have X2 : Hid (TX v (bs k) w2) := (by first | exact HX1.out.step hb | exact HX1.out.drew.step hb); have HO2 : Hid (w2.ownsRow v.heap.size 4 1 hv q (hasI (G k) (asks.take q))) := (by first | exact own_below HO1.out hb | exact own_below (World.ownsRow.drew HO1.out) hb); have HZ2 : Hid (Blk w2 g 60 #[hv, ln, le, .slice none 0 0, tx]) := (by first | exact HZ1.out.below hb HZ1.out.lt | exact HZ1.out.drew.below hb HZ1.out.lt); have c2' := X2.out.cell; obtain ⟨l0, l1, l2, l3, l4, e0, e1, e2, e3, e4⟩ := cells5 HZ2.out; have la : ∀ o : Obj, (w2.alloc o).cell? ⟨g, 0, none⟩ = some hv := fun o => (HZ2.out.alloc o).cell 0; have lb : ∀ o : Obj, (w2.alloc o).cell? ⟨v.heap.size, 0, none⟩ = some (.pointer (some ⟨bs k, 0, none⟩)) := fun o => (X2.out.alloc o).cell; clear hb))
                    all_goals go_wp2
                    all_goals go_roundw
                    all_goals first
                      | exact ⟨q + 1, _, by omega, rfl, HE.out.1, HE.out.2.1, by rw [hasI_snoc (G k) asks q u Hu.out, Hy.out]; exact HE.out.2.2⟩
                      | (simp [intOf]; omega)
                  · have hqm : q = m := by omega
                    subst hqm
                    rw [List.take_of_length_le (by rw [Hm.out]; exact Nat.le_refl _)] at hown
                    obtain ⟨k0, k1, k2, k3, k4, f0, f1, f2, f3, f4⟩ := cells5 hz
                    have cb := ht.cell
                    have HX1 := Lib.hid ht
                    have HZ1 := Lib.hid hz
                    have HO1 := Lib.hid hown
                    obtain ⟨Ag, cg, evs⟩ := HI.out.form
                    obtain ⟨nl, hnl⟩ : ∃ nl, (G k).length = nl := ⟨_, rfl⟩
                    have hnl2 := Fine.len (HAO.out k)
                    rw [hnl] at hnl2 evs
                    have Hvs := Lib.hid evs
                    have Hnl := Lib.hid hnl
                    clear ht hz hown evs hnl k0 k1 k2 k3 k4 f0 f1 f2 f3 f4
                    go_wp2_with (go_at_call 59; go_fit (zsintervals _ w.heap.size (bs k) (vs k) (G k) (IS.below HI.out HX1.out.1)); rw [Hvs.out]; rintro e w2 ⟨rfl, hb⟩; have X2 := Lib.hid (HX1.out.step hb); have Z2 := Lib.hid (HZ1.out.below hb HZ1.out.lt); have O2 := Lib.hid (own_below HO1.out hb); clear hb)
                    go_loopw [103] (fun s103 wx => ∃ (r : Nat) (rv : Value), r ≤ nl ∧ s103 = .int .i64 (r : Int) ∧ TX v (bs k) wx ∧ Blk wx g 60 #[hv, ln, le, rv, tx] ∧ wx.ownsRow v.heap.size 4 1 hv q (hasI (G k) asks) ∧ wx.ownsRow v.heap.size 62 2 rv r (rowJ ((G k).take r))) (fun s103 _ => nl - (intOf s103).toNat)
                    case atStart => exact ⟨0, _, Nat.zero_le _, rfl, X2.out, Z2.out, O2.out, World.ownsRow_nil _ _ _ _⟩
                    case round =>
                      obtain ⟨r, rv, hr, rfl, ht, hz, hoh, hor⟩ := hrel
                      by_cases hlt3 : r < nl
                      · obtain ⟨p, hp⟩ : ∃ p, (G k)[r]? = some p := ⟨(G k)[r]'(by rw [Hnl.out]; exact hlt3), List.getElem?_eq_getElem _⟩
                        have hi3 := IS.below HI.out ht.1
                        rw [Hvs.out, ← Hnl.out] at hi3
                        obtain ⟨ga, eA, hgal, d1, d2⟩ := hi3.cells hp
                        subst eA
                        have hbd := Fine.bounds (HAO.out k) p (List.mem_of_getElem? hp)
                        have Hp := Lib.hid hp
                        have X3 := Lib.hid (ht.alloc (P109 p))
                        have Z3 := Lib.hid (hz.alloc (P109 p))
                        have O3 := Lib.hid (hoh.alloc (P109 p))
                        have R3 := Lib.hid (hor.alloc (P109 p))
                        have hbx : Blk (wr.alloc (P109 p)) wr.heap.size 109 #[.int .i64 p.1, .int .i64 p.2] := Blk.new _ _ _
                        clear hp hi3 ht hz hoh hor
                        go_upto_region 33 with fail
                        generalize (wr.alloc (.cells #[.int .i64 p.1, .int .i64 p.2] 109)) = w3 at X3 Z3 O3 R3 hbx ⊢
                        generalize wr.heap.size = zp at hbx hgal ⊢
                        have y0 : w3.cell? ⟨zp, 0, none⟩ = some (.int .i64 p.1) := hbx.cell 0
                        have y1 : w3.cell? ⟨zp, 1, none⟩ = some (.int .i64 p.2) := hbx.cell 1
                        obtain ⟨k0, k1, k2, k3, k4, f0, f1, f2, f3, f4⟩ := cells5 Z3.out
                        clear hbx d1 d2
                        go_wp2_with (at_builtin; refine wpList_append_own _ rfl (.tmp 108) (.tmp 115) 58 rfl v.heap.size 62 j0 _ 2 16 Tryd.underlying58 hj0 hy0 hy1 hy2 rfl (by decide) _ _ _ rfl (R3.out.alloc _) ⟨w3.heap.size, 0, none⟩ 1 1 [.int .i64 p.1, .int .i64 (p.2 - 1)] rfl rfl (cells_new w3 [.int .i64 p.1, .int .i64 (p.2 - 1)] 62 _ rfl) (rowJ_one _ _) (by unfold maxLen; omega) (by omega) (size_al X3.out.1 _) ?_; intro rv' w4 hown' hgrow _; obtain ⟨Ar, cr, rfl⟩ := own_slice hown'; obtain ⟨c3', f3', hend⟩ := run_step R3.out O3.out X3.out Z3.out hgv hgrow hown'; have HE := Lib.hid hend; clear hend hown' hgrow)
                        go_roundw
                        case rel => exact ⟨r + 1, _, by omega, rfl, HE.out.1, HE.out.2.1, HE.out.2.2.2, by rw [rowJ_take_snoc (G k) r p Hp.out]; exact HE.out.2.2.1⟩
                        case measure =>
                          simp [intOf]
                          omega
                      · have hrn : r = nl := by omega
                        subst hrn
                        rw [List.take_of_length_le (by rw [Hnl.out]; exact Nat.le_refl _)] at hor
                        obtain ⟨hs1, rs1, o1, o2⟩ := HTD.out.keep ht.1
                        have hone := told_one (a := lenR (G k)) (b := leastI (G k)) (t := textI (G k)) hoh hor
                        rw [Hll.out, Hle.out, Hte.out] at hone
                        obtain ⟨m0, hm0, hx0, hx1, hx2⟩ := info_parts info60
                        obtain ⟨k0, k1, k2, k3, k4, f0, f1, f2, f3, f4⟩ := cells5 hz
                        have hfs4 := HFS3.out.keep ht.1
                        have hsz4 := (below_al hfs4.below (Nat.le_refl _) (o := .cells #[hv, ln, le, rv, tx] 60)).size
                        have HOH : Hid (wr.ownsRow v.heap.size 4 1 hv asks.length (hasI (G k) asks)) := by rw [Hm.out]; exact hoh
                        have HOR : Hid (wr.ownsRow v.heap.size 62 2 rv (G k).length (rowJ (G k))) := by rw [Hnl.out]; exact hor
                        have HFS4 := Lib.hid hfs4
                        have HT1 := Lib.hid o1
                        have HT2 := Lib.hid o2
                        have HONE := Lib.hid hone
                        clear ht hz hoh hor o1 o2 hone hfs4
                        go_wp2_with (at_builtin; refine wpList_append_own _ rfl (.tmp 119) (.tmp 121) 51 rfl w.heap.size 60 m0 _ 5 80 Tryd.underlying51 hm0 hx0 hx1 hx2 rfl (by decide) _ _ _ rfl (HT1.out.alloc _) ⟨wr.heap.size, 0, none⟩ 1 1 [hv, ln, le, rv, tx] rfl rfl (cells_new wr [hv, ln, le, rv, tx] 60 _ rfl) HONE.out (by unfold maxLen; omega) (by omega) hsz4 ?_; intro tv' w4 hown' hgrow _)
                        have HO4 := Lib.hid hown'
                        have HG4 := Lib.hid hgrow
                        clear hown' hgrow k0 k1 k2 k3 k4 f0 f1 f2 f3 f4
                        go_roundw
                        case rel => exact ⟨k + 1, by omega, rfl, side_fs (HT1.out.alloc _) HG4.out (HFS4.out.alloc _), Told.new HT1.out HT2.out hwsz HOH.out HOR.out HG4.out (by rw [Hll.out, Hle.out, Hte.out]; exact HO4.out)⟩
                        case measure =>
                          simp [intOf]
                          omega
            · obtain rfl : k = 4 := by omega
              have d0 := hfs.cell (i := 0) (by omega) (by omega)
              have d1 := hfs.cell (i := 1) (by omega) (by omega)
              have I0 := Lib.hid (hfs.is 0 (by omega))
              have I1 := Lib.hid (hfs.is 1 (by omega))
              have HFS3 := Lib.hid hfs
              have HTD := Lib.hid htd
              clear hfs htd
              go_wp2_with (go_at_call 60; go_fit (zsequal _ w.heap.size (bs 0) (bs 1) (vs 0) (vs 1) (G 0) (G 1) I0.out I1.out (HAO.out 0)); rintro e w2 ⟨x, rfl, hb⟩; have HB := Lib.hid hb; clear hb)
              go_ret2
              exact ⟨_, x, rfl, below_tr HFS3.out.below (Nat.le_refl _) HB.out, HTD.out.keep HB.out⟩
end Go.Proofs.YtiffjbpejlnndaaDoor
