/-
  laws.FnBitsOr answers true, where all its conditions are met. Conditions: those, and the library's two tables as they are laid.
-/
import Derived.Test.YtiffjbpejlnndaaDoorOr2
namespace Go.Proofs.YtiffjbpejlnndaaDoor
open Go.RowKit Go.Maps

theorem nats_len (l : List Int) : (nats l).length = l.length := by simp [nats]
theorem NatsAt.of_ints {w : World} {U : Nat} {A : Option Addr} {l : List Int} {m : Int} (h : IntsAt w U A l) (hok : okB m l = true) : NatsAt w U A (nats l) := fun h0 => by
  rw [nats_len] at h0
  obtain ⟨a, e, ha, hc⟩ := h h0
  refine ⟨a, e, ha, fun i hi => ?_⟩
  rw [nats_len] at hi
  have h1 : l[i]? = some l[i] := List.getElem?_eq_getElem hi
  have h2 := okB_at hok h1
  have h3 := nats_at h1
  rw [hc i hi, List.getD_eq_getElem?_getD, List.getD_eq_getElem?_getD, h1, h3]
  simp only [Option.getD_some]
  rw [Int.toNat_of_nonneg h2.1]
theorem nats_le {l : List Int} {m : Nat} (hok : okB (m : Int) l = true) : ∀ x ∈ nats l, x ≤ m := by
  intro x hx
  simp only [nats, List.mem_map] at hx
  obtain ⟨z, hz, rfl⟩ := hx
  obtain ⟨i, hi⟩ := List.getElem?_of_mem hz
  have := okB_at hok hi
  omega
theorem els_set (ws : List Nat) (hn : ws.length ≤ 16) (h : ∀ v, 200 < v → inB ws v = false) : els ws ws.length = (List.range 201).filter (inB ws) := by
  rw [← els_past ws ws.length 16 (Nat.le_refl _) hn]
  exact els_eq (inB ws) (by omega) (fun _ _ => rfl) fun v hv => h v (by omega)
theorem sum_set (ws : List Nat) (hn : ws.length ≤ 16) (h : ∀ v, 200 < v → inB ws v = false) : sumB ws = cnt (inB ws) := by
  have := sum_els ws ws.length (Nat.le_refl _)
  rw [List.take_length, els_set ws hn h] at this
  exact this
theorem least_set (ws : List Nat) (hn : ws.length ≤ 16) (h : ∀ v, 200 < v → inB ws v = false) : leastB ws = leastS (inB ws) := by
  unfold leastB leastS
  rw [sum_set ws hn h, els_set ws hn h]
  unfold cnt
  cases (List.range 201).filter (inB ws) with
  | nil => rfl
  | cons a r => rfl
theorem cnt_le (S : Nat → Bool) : cnt S ≤ 201 := by
  unfold cnt
  exact Nat.le_trans (List.length_filter_le _ _) (by simp)

theorem bits_ints (w W : World) (U : Nat) (A1 A2 A3 A4 A5 : Option Addr) (c1 c2 c3 c4 c5 : Nat) (l1 l2 l3 l4 l5 : List Int) (ha : OrArgs w U A1 A2 A3 A4 A5 l1 l2 l3 l4 l5) (hb : Below w.heap.size w W) (hT : Tabs w)
    (k1 : okB 200 l1 = true) (k2 : okB 200 l2 = true) (k3 : okB 200 l3 = true) (k4 : okB 200 l4 = true) (k5 : okB 300 l5 = true) (n1 : l1.length ≤ 1000) (n2 : l2.length ≤ 1000) (n3 : l3.length ≤ 1000) (n4 : l4.length ≤ 1000) (n5 : l5.length ≤ 1000) :
    Calls Tryd.prog 16 #[.slice A1 l1.length c1, .slice A2 l2.length c2, .slice A3 l3.length c3, .slice A4 l4.length c4, .slice A5 l5.length c5] W (BitsPost W (setW (nats l1) (nats l2)) (setW (nats l3) (nats l4)) (nats l5)) := by
  have h := bits_any W U A1 A2 A3 A4 A5 c1 c2 c3 c4 c5 (nats l1) (nats l2) (nats l3) (nats l4) (nats l5) (NatsAt.of_ints (ha.h1.below hb ha.hU) k1) (NatsAt.of_ints (ha.h2.below hb ha.hU) k2) (NatsAt.of_ints (ha.h3.below hb ha.hU) k3) (NatsAt.of_ints (ha.h4.below hb ha.hU) k4) (NatsAt.of_ints (ha.h5.below hb ha.hU) k5)
    (Nat.le_trans ha.hU hb.size) (nats_le k1) (nats_le k2) (nats_le k3) (nats_le k4) (fun x hx => Nat.le_trans (nats_le (m := 300) k5 x hx) (by omega)) (by rw [nats_len]; exact n1) (by rw [nats_len]; exact n2) (by rw [nats_len]; exact n3) (by rw [nats_len]; exact n4) (by rw [nats_len]; exact n5) (hT.below hb)
  rw [nats_len, nats_len, nats_len, nats_len, nats_len] at h
  exact h

theorem map_below {w w' : World} {g n : Nat} {D : DataW Unit} (h : w.ownsMap Tryd.prog 3 (plainElem Tryd.prog 4) g n D) (hb : Below w.heap.size w w') : w'.ownsMap Tryd.prog 3 (plainElem Tryd.prog 4) g n D := by
  have hl := h.lt
  obtain ⟨es, clock, q1, q2, q3, q4⟩ := h
  exact ⟨es, clock, (hb.block g hl).trans q1, q2, q3, q4⟩
set_option maxRecDepth 100000 in
set_option maxHeartbeats 2000000 in
theorem or_yes (w : World) (U : Nat) (A1 A2 A3 A4 A5 : Option Addr) (c1 c2 c3 c4 c5 : Nat) (l1 l2 l3 l4 l5 : List Int) (ha : OrArgs w U A1 A2 A3 A4 A5 l1 l2 l3 l4 l5) (hT : Tabs w)
    (hb1 : (okB 200 l1 && okB 200 l2) = true) (hb2 : (okB 200 l3 && okB 200 l4) = true) (x1 : l1.length + l3.length ≤ 100) (x2 : l2.length + l4.length ≤ 100) (hb5 : (okB 300 l5 && decide (l5.length ≤ 100)) = true) :
    Calls Tryd.prog 5 #[.slice A1 l1.length c1, .slice A2 l2.length c2, .slice A3 l3.length c3, .slice A4 l4.length c4, .slice A5 l5.length c5] w (Saw w (.bool true)) := by
  have HA := Lib.hid ha
  have HT := Lib.hid hT
  have K1 : Hid (okB 200 l1 = true) := (Bool.and_eq_true _ _ ▸ hb1).1
  have K2 : Hid (okB 200 l2 = true) := (Bool.and_eq_true _ _ ▸ hb1).2
  have K3 : Hid (okB 200 l3 = true) := (Bool.and_eq_true _ _ ▸ hb2).1
  have K4 : Hid (okB 200 l4 = true) := (Bool.and_eq_true _ _ ▸ hb2).2
  have K5 : Hid (okB 300 l5 = true) := (Bool.and_eq_true _ _ ▸ hb5).1
  have x5 : l5.length ≤ 100 := by
    have := (Bool.and_eq_true _ _ ▸ hb5).2
    exact of_decide_eq_true this
  have Q1 := Lib.hid hb1
  have Q2 := Lib.hid hb2
  have Q5 := Lib.hid hb5
  obtain ⟨n1, e1⟩ : ∃ n, l1.length = n := ⟨_, rfl⟩
  obtain ⟨n2, e2⟩ : ∃ n, l2.length = n := ⟨_, rfl⟩
  obtain ⟨n3, e3⟩ : ∃ n, l3.length = n := ⟨_, rfl⟩
  obtain ⟨n4, e4⟩ : ∃ n, l4.length = n := ⟨_, rfl⟩
  obtain ⟨n5, e5⟩ : ∃ n, l5.length = n := ⟨_, rfl⟩
  have C1 : Hid (∀ W, Below w.heap.size w W → Calls Tryd.prog 13 #[.slice A1 n1 c1, .slice A2 n2 c2] W (OfYes W l1 l2)) := fun W h => by
    rw [← e1, ← e2]
    exact bitsOf_yes W U A1 A2 c1 c2 l1 l2 (HA.out.h1.below h HA.out.hU) (HA.out.h2.below h HA.out.hU) (Nat.le_trans HA.out.hU h.size) (by omega) (by omega) Q1.out
  have C2 : Hid (∀ W, Below w.heap.size w W → Calls Tryd.prog 13 #[.slice A3 n3 c3, .slice A4 n4 c4] W (OfYes W l3 l4)) := fun W h => by
    rw [← e3, ← e4]
    exact bitsOf_yes W U A3 A4 c3 c4 l3 l4 (HA.out.h3.below h HA.out.hU) (HA.out.h4.below h HA.out.hU) (Nat.le_trans HA.out.hU h.size) (by omega) (by omega) Q2.out
  have C5 : Hid (∀ W, Below w.heap.size w W → Calls Tryd.prog 14 #[.slice A5 n5 c5] W (SawV W true)) := fun W h => by
    rw [← e5]
    exact bitAsk_v W U A5 c5 l5 (HA.out.h5.below h HA.out.hU) (by omega) Q5.out
  have C16 : Hid (∀ W, Below w.heap.size w W → Calls Tryd.prog 16 #[.slice A1 n1 c1, .slice A2 n2 c2, .slice A3 n3 c3, .slice A4 n4 c4, .slice A5 n5 c5] W (BitsPost W (setW (nats l1) (nats l2)) (setW (nats l3) (nats l4)) (nats l5))) := fun W h => by
    rw [← e1, ← e2, ← e3, ← e4, ← e5]
    exact bits_ints w W U A1 A2 A3 A4 A5 c1 c2 c3 c4 c5 l1 l2 l3 l4 l5 HA.out h HT.out K1.out K2.out K3.out K4.out K5.out (by omega) (by omega) (by omega) (by omega) (by omega)
  have E5 : Hid ((nats l5).length = n5) := (nats_len l5).trans e5
  have Lp := Lib.hid (len_set (nats l1) (nats l2) (nats_le K1.out))
  have Lq := Lib.hid (len_set (nats l3) (nats l4) (nats_le K3.out))
  rw [e1, e3] at x1
  rw [e2, e4] at x2
  rw [e5] at x5
  rw [e1, e2, e3, e4, e5]
  have X12 : Hid (l1.length + l2.length ≤ 200) := by show _ ≤ _; omega
  have X34 : Hid (l3.length + l4.length ≤ 200) := by show _ ≤ _; omega
  have hmm := @run_makeMap Tryd.prog
  clear ha hT hb1 hb2 hb5 e1 e2 e3 e4 e5 Q1 Q2 Q5
  go_enter Tryd.func5, Tryd.ntmps5
  go_upto_region 8 with (first
    | (go_at_call 13; go_fit (C1.out _ (Below.refl _ _)); rintro e w1 ⟨hb, g1, k1, rfl, hg1, hk1, hs⟩; have HB1 := Lib.hid hb; have HS1 := Lib.hid hs; have HK1 := Lib.hid hk1; clear hb hs hk1)
    | (go_at_call 13; go_fit (C2.out _ HB1.out); rintro e w2 ⟨hb, g2, k2, rfl, hg2, hk2, hs⟩; have HB2 := Lib.hid (below_tr HB1.out (Nat.le_refl _) hb); have HS2 := Lib.hid hs; have HS1b := Lib.hid (HS1.out.below hb HS1.out.lt); have HK2 := Lib.hid hk2; have hg12 : ¬ g1 = g2 := (by have := HS1.out.lt; omega); clear hb hs hk2)
    | (go_at_call 14; go_fit (C5.out _ HB2.out); rintro e w3 ⟨rfl, rfl⟩)
    | (go_at_call 16; go_fit (C16.out _ HB2.out); rintro e w4 ⟨h1, h2, h3, eq, rfl, hb, o1, o2, o3⟩; rw [E5.out] at o1 o2 o3; obtain ⟨B1, d1, rfl⟩ := own_slice o1; obtain ⟨B2, d2, rfl⟩ := own_slice o2; obtain ⟨B3, d3, rfl⟩ := own_slice o3; have HB4 := Lib.hid (below_tr HB2.out (Nat.le_refl _) hb); have HS1c := Lib.hid (HS1b.out.below hb HS1b.out.lt); have HS2c := Lib.hid (HS2.out.below hb HS2.out.lt); have HO3 := Lib.hid o3; clear o1 o2 o3 hb))
  obtain ⟨ps, hps⟩ : ∃ ps, setW (nats l1) (nats l2) = ps := ⟨_, rfl⟩
  obtain ⟨qs, hqs⟩ : ∃ qs, setW (nats l3) (nats l4) = qs := ⟨_, rfl⟩
  rw [hps] at HS1c Lp
  rw [hqs] at HS2c Lq
  have ho3 := HO3.out
  rw [hps, hqs] at ho3
  have HO3' := Lib.hid ho3
  clear ho3
  rw [hps, hqs]
  clear HO3 hps hqs HS1 HS1b HS2 C1 C2 C5 C16
  obtain ⟨us, hus⟩ : ∃ us, unionW ps qs = us := ⟨_, rfl⟩
  have Hus := Lib.hid hus
  rw [hus] at HO3'
  rw [hus]
  clear hus
  obtain ⟨z1, z2, z3, hbz⟩ := three43 w4 #[.slice B1 n5 d1, .int .i64 (sumB ps : Nat), .int .i64 (leastB ps : Nat), .string (textB (els ps ps.length))]
    #[.slice B2 n5 d2, .int .i64 (sumB qs : Nat), .int .i64 (leastB qs : Nat), .string (textB (els qs qs.length))]
    #[.slice B3 n5 d3, .int .i64 (sumB us : Nat), .int .i64 (leastB us : Nat), .string (textB (els us us.length))]
  generalize (((w4.alloc (.cells #[.slice B1 n5 d1, .int .i64 (sumB ps : Nat), .int .i64 (leastB ps : Nat), .string (textB (els ps ps.length))] 43)).alloc
    (.cells #[.slice B2 n5 d2, .int .i64 (sumB qs : Nat), .int .i64 (leastB qs : Nat), .string (textB (els qs qs.length))] 43)).alloc
    (.cells #[.slice B3 n5 d3, .int .i64 (sumB us : Nat), .int .i64 (leastB us : Nat), .string (textB (els us us.length))] 43)) = w5 at z3 hbz ⊢
  generalize w4.heap.size + 1 + 1 = g17 at z3 ⊢
  have HB5 := Lib.hid (below_tr HB4.out (Nat.le_refl _) hbz)
  have HS1d := Lib.hid (HS1c.out.below hbz HS1c.out.lt)
  have HS2d := Lib.hid (HS2c.out.below hbz HS2c.out.lt)
  have HO5 := Lib.hid (own_below HO3'.out hbz)
  have HZ3 := Lib.hid z3
  clear z1 z2 z3 hbz HO3' HS1c HS2c HB4
  obtain ⟨tx, htx⟩ : ∃ tx, textB (els us us.length) = tx := ⟨_, rfl⟩
  obtain ⟨su, hsu⟩ : ∃ su, sumB us = su := ⟨_, rfl⟩
  obtain ⟨le, hle⟩ : ∃ le, leastB us = le := ⟨_, rfl⟩
  rw [htx, hsu, hle] at HZ3
  have Hsu := Lib.hid hsu
  have Hle := Lib.hid hle
  clear htx hsu hle
  obtain ⟨D1, ho1, hD1⟩ := HS1d.out
  obtain ⟨D2, ho2, hD2⟩ := HS2d.out
  have HO1 := Lib.hid ho1
  have HD1 := Lib.hid hD1
  have HO2 := Lib.hid ho2
  have HD2 := Lib.hid hD2
  have L1 := Lib.hid ho1.lt
  have L2 := Lib.hid ho2.lt
  have S3 : Hid (SetAt (w5.alloc (.map #[] 0)) w5.heap.size 0 (fun _ => false)) := ⟨_, World.ownsMap_made w5 _ _ _, SetD.empty⟩
  clear ho1 hD1 ho2 hD2 HS1d HS2d
  have HB6 : Hid (Below w5.heap.size w5 (w5.alloc (.map #[] 0))) := (Below.refl _ _).alloc (Nat.le_refl _) _
  have HO1' := Lib.hid (HO1.out.alloc (.map #[] 0))
  go_cut [20] (fun s20 wx => s20 = .map (some w5.heap.size) ∧ wx = w5.alloc (.map #[] 0))
  case first =>
    go_wp2_with fail
    go_meet
    exact ⟨rfl, rfl⟩
  case rest =>
    obtain ⟨rfl, rfl⟩ := hcut
    go_wp2_with (at_range; refine wpList_range_own _ rfl _ 37 rfl 3 4 law3 Tryd.underlying37 (plainElem Tryd.prog 4) g1 k1 D1 rfl HO1'.out ?_; intro w7 hrg0 hg0 hs0)
    go_frame
    have HU0 := Lib.hid (unInv_start (M := 201) (S1 := inB ps) HD1.out S3.out (by omega) HB6.out hg0 hrg0 (by have := L1.out; omega) (Nat.le_refl _))
    generalize hr1 : (w5.alloc (.map #[] 0)).heap.size = r1 at HU0 ⊢
    clear hrg0 hg0 hs0 hr1
    go_loopw [21] (fun s21 wr => UnInv 201 w5 g1 r1 k1 D1 w5.heap.size (fun _ => false) (inB ps) wr) (fun _ wr => wr.rangeLeft g1 r1)
    case atStart => exact HU0.out
    case round =>
      obtain ⟨left, c, m, hrg, hl, hset, hmc, hb, hne, hner, h0r, h03⟩ := hrel
      have HL := Lib.hid hl
      have HB := Lib.hid hb
      have HSet := Lib.hid hset
      clear hl hb hset
      go_wp2_with (at_next; refine wpList_next_set _ rfl _ rfl 3 4 law3 Tryd.underlying3 Tryd.underlying4 g1 r1 k1 D1 left c rfl hrg ?_ ?_)
      · intro hl0
        have HE := Lib.hid (unInv_end hl0 HSet.out)
        have HO2w := Lib.hid (map_below HO2.out HB.out)
        have hmx : m ≤ 201 := by omega
        clear hrg HL HSet hl0 HU0
        go_wp2_with (at_range; refine wpList_range_own _ rfl _ 37 rfl 3 4 law3 Tryd.underlying37 (plainElem Tryd.prog 4) g2 k2 D2 rfl HO2w.out ?_; intro w8 hrg0 hg0 hs0)
        go_frame
        have HU1 := Lib.hid (unInv_start (M := 402) (S1 := inB qs) HD2.out HE.out (by omega) HB.out hg0 hrg0 (by have := L2.out; omega) h03)
        generalize hr2 : wr.heap.size = r2 at HU1 ⊢
        clear hrg0 hg0 hs0 hr2
        go_loopw [22] (fun s22 wq => UnInv 402 w5 g2 r2 k2 D2 w5.heap.size (fun u => false || inB ps u) (inB qs) wq) (fun _ wq => wq.rangeLeft g2 r2)
        case atStart => exact HU1.out
        case round =>
          obtain ⟨left, c, m, hrg, hl, hset, hmc, hb, hne, hner, h0r, h03⟩ := hrel
          have HL := Lib.hid hl
          have HB2' := Lib.hid hb
          have HSet := Lib.hid hset
          clear hl hb hset
          go_wp2_with (at_next; refine wpList_next_set _ rfl _ rfl 3 4 law3 Tryd.underlying3 Tryd.underlying4 g2 r2 k2 D2 left c rfl hrg ?_ ?_)
          · intro hl0
            have HE2 := Lib.hid (unInv_end hl0 HSet.out)
            clear hrg HL HSet hl0 HU1
            have hbw : Below w.heap.size w wr := below_tr HB5.out (Nat.le_refl _) HB2'.out
            have hset : SetAt wr w5.heap.size m (inB us) := HE2.out.congr fun u => by
              rw [← Hus.out]
              unfold unionW
              rw [inB_or, inB_or]
              have : inB [] u = false := by simp [inB]
              rw [this]
            have hn16 : us.length ≤ 16 := by
              rw [← Hus.out]
              exact len_or _ _ (len_or _ _ (by simp) Lp.out) Lq.out
            have h200 : ∀ v, 200 < v → inB us v = false := by
              obtain ⟨DD, _, hDD⟩ := hset
              exact hDD.2.2.1
            have hc17 := bitTold_yes wr U _ w5.heap.size m A5 B3 c5 d3 us (nats l5) tx su le hset (by rw [← sum_set us hn16 h200, Hsu.out]) (by rw [← least_set us hn16 h200, Hle.out]) (NatsAt.of_ints (HA.out.h5.below hbw HA.out.hU) K5.out) (Nat.le_trans HA.out.hU hbw.size)
              (by rw [E5.out]; exact own_below HO5.out HB2'.out) (by rw [E5.out]; omega) (fun x hx => Nat.le_trans (nats_le (m := 300) K5.out x hx) (by omega)) (by rw [← Hsu.out, sum_set us hn16 h200]; exact cnt_le _)
            rw [E5.out] at hc17
            have HC17 := Lib.hid hc17
            have HBw := Lib.hid hbw
            have hz := HZ3.out.below HB2'.out HZ3.out.lt
            obtain ⟨y0, y1, y2, y3, f0, f1, f2, f3⟩ := cells4 hz
            clear hc17 hset hn16 h200 hbw hz HE2
            go_wp2_with (first
              | (go_at_call 17; go_fit HC17.out; rintro e w9 ⟨rfl, hb⟩; have HB9 := Lib.hid (below_tr HBw.out (Nat.le_refl _) hb); clear hb)
              | (go_at_call 15; go_fit (bitAwake_yes _ (HT.out.below HB9.out)); rintro e w10 ⟨rfl, hb⟩; have HB10 := Lib.hid (below_tr HB9.out (Nat.le_refl _) hb); clear hb))
            go_ret
            exact ⟨rfl, HB10.out⟩
          · intro x cc wa c' hlx hrg1 hlt hg1 hs1 hen
            obtain ⟨v, rfl, hv⟩ := key_num HD2.out HL.out hlx
            obtain ⟨DU, hou, hDU⟩ := HSet.out
            have HOU := Lib.hid hou
            have HDU := Lib.hid hDU
            have HG1 := Lib.hid hg1
            have HR1 := Lib.hid hrg1
            have HR0 := Lib.hid hrg
            clear hou hDU hg1 hrg1 hrg hs1
            go_wp2_with (at_mapUpdate; refine wpList_mapUpdate_own _ rfl _ _ _ 37 rfl 3 4 law3 Tryd.underlying37 (plainElem Tryd.prog 4) w5.heap.size m DU rfl (HOU.out.kept HG1.out (by simp; exact hner)) (by unfold maxLen; omega) _ _ (key v) rfl rfl (key_of v (by omega)) (.lit (.bool true)) [] (plainElem_bool Tryd.underlying4 true) ?_; intro wb hown2 hg2)
            go_frame
            go_roundw
            case rel => exact unInv_step HD2.out HL.out HDU.out hlx hmc hlt HB2'.out hne hner h0r h03 HG1.out HR1.out hown2 hg2
            case measure =>
              rw [(HR1.out.kept hg2 (by simp; exact fun e => hne e.symm) (by simp; exact fun e => hner e.symm)).left_eq, HR0.out.left_eq]
              exact hlt
      · intro x cc wa c' hlx hrg1 hlt hg1 hs1 hen
        obtain ⟨v, rfl, hv⟩ := key_num HD1.out HL.out hlx
        obtain ⟨DU, hou, hDU⟩ := HSet.out
        have HOU := Lib.hid hou
        have HDU := Lib.hid hDU
        have HG1 := Lib.hid hg1
        have HR1 := Lib.hid hrg1
        have HR0 := Lib.hid hrg
        clear hou hDU hg1 hrg1 hrg hs1
        go_wp2_with (at_mapUpdate; refine wpList_mapUpdate_own _ rfl _ _ _ 37 rfl 3 4 law3 Tryd.underlying37 (plainElem Tryd.prog 4) w5.heap.size m DU rfl (HOU.out.kept HG1.out (by simp; exact hner)) (by unfold maxLen; omega) _ _ (key v) rfl rfl (key_of v (by omega)) (.lit (.bool true)) [] (plainElem_bool Tryd.underlying4 true) ?_; intro wb hown2 hg2)
        go_frame
        go_roundw
        case rel => exact unInv_step HD1.out HL.out HDU.out hlx hmc hlt HB.out hne hner h0r h03 HG1.out HR1.out hown2 hg2
        case measure =>
          rw [(HR1.out.kept hg2 (by simp; exact fun e => hne e.symm) (by simp; exact fun e => hner e.symm)).left_eq, HR0.out.left_eq]
          exact hlt
end Go.Proofs.YtiffjbpejlnndaaDoor
