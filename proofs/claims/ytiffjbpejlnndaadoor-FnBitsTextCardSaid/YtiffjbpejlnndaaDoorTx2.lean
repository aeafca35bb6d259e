/-
  laws.FnBitsText answers true, where all its conditions are met. Conditions: those, and the library's two tables as they are laid.
-/
import Derived.Test.YtiffjbpejlnndaaDoorTx1
import Derived.Laws.Strings
namespace Go.Proofs.YtiffjbpejlnndaaDoor
open Go.RowKit Go.Maps

set_option maxRecDepth 100000 in
set_option maxHeartbeats 2000000 in
theorem tx_yes (w : World) (U : Nat) (A1 A2 : Option Addr) (c1 c2 : Nat) (l1 l2 : List Int) (h1 : IntsAt w U A1 l1) (h2 : IntsAt w U A2 l2) (hU : U ≤ w.heap.size) (hT : Tabs w)
    (k1 : okB 200 l1 = true) (k2 : okB 200 l2 = true) (x1 : l1.length + l2.length ≤ 100) :
    Calls Tryd.prog 6 #[.slice A1 l1.length c1, .slice A2 l2.length c2] w (Saw w (.bool true)) := by
  have HT := Lib.hid hT
  have C1 : Hid (∀ W, Below w.heap.size w W → Calls Tryd.prog 13 #[.slice A1 l1.length c1, .slice none 0 0] W (OfYes W l1 [])) := fun W h =>
    bitsOf_yes W U A1 none c1 0 l1 [] (h1.below h hU) (IntsAt.nil _ _) (Nat.le_trans hU h.size) (by omega) (by decide) (by rw [k1]; rfl)
  have C2 : Hid (∀ W, Below w.heap.size w W → Calls Tryd.prog 13 #[.slice A2 l2.length c2, .slice none 0 0] W (OfYes W l2 [])) := fun W h =>
    bitsOf_yes W U A2 none c2 0 l2 [] (h2.below h hU) (IntsAt.nil _ _) (Nat.le_trans hU h.size) (by omega) (by decide) (by rw [k2]; rfl)
  have C16 : Hid (∀ W, Below w.heap.size w W → Calls Tryd.prog 16 #[.slice A1 l1.length c1, .slice none 0 0, .slice A2 l2.length c2, .slice none 0 0, .slice none 0 0] W (BitsPost W (setW (nats l1) (nats [])) (setW (nats l2) (nats [])) (nats []))) := fun W h =>
    bits_ints w W U A1 none A2 none none c1 0 c2 0 0 l1 [] l2 [] [] ⟨h1, IntsAt.nil _ _, h2, IntsAt.nil _ _, IntsAt.nil _ _, hU⟩ h hT k1 (by rfl) k2 (by rfl) (by rfl) (by omega) (by decide) (by omega) (by decide) (by decide)
  obtain ⟨n1, e1⟩ : ∃ n, l1.length = n := ⟨_, rfl⟩
  obtain ⟨n2, e2⟩ : ∃ n, l2.length = n := ⟨_, rfl⟩
  have Lp := Lib.hid (len_set (nats l1) (nats []) (nats_le k1))
  have Lq := Lib.hid (len_set (nats l2) (nats []) (nats_le k2))
  rw [e1] at x1 C1 C16 ⊢
  rw [e2] at x1 C2 C16 ⊢
  obtain ⟨ps, hps⟩ : ∃ ps, setW (nats l1) (nats []) = ps := ⟨_, rfl⟩
  obtain ⟨qs, hqs⟩ : ∃ qs, setW (nats l2) (nats []) = qs := ⟨_, rfl⟩
  have Hps := Lib.hid hps
  have Hqs := Lib.hid hqs
  rw [hps] at Lp C16
  rw [hqs] at Lq C16
  clear h1 h2 hT k1 k2 e1 e2 hps hqs
  go_enter Tryd.func6, Tryd.ntmps6
  go_upto_region 8 with (first
    | (go_at_call 13; go_fit (C1.out _ (Below.refl _ _)); rintro e w1 ⟨hb, g1, k1, rfl, hg1, hk1, hs⟩; have HB1 := Lib.hid hb; have HS1 := Lib.hid hs; rw [Hps.out] at HS1; clear hb hs hk1)
    | (go_at_call 13; go_fit (C2.out _ HB1.out); rintro e w2 ⟨hb, g2, k2, rfl, hg2, hk2, hs⟩; have HB2 := Lib.hid (below_tr HB1.out (Nat.le_refl _) hb); have HS2 := Lib.hid hs; rw [Hqs.out] at HS2; have HS1b := Lib.hid (HS1.out.below hb HS1.out.lt); clear hb hs hk2)
    | (go_at_call 16; go_fit (C16.out _ HB2.out); rintro e w4 ⟨h1, h2, h3, eq, rfl, hb, o1, o2, o3⟩; obtain ⟨B1, d1, rfl⟩ := own_slice o1; obtain ⟨B2, d2, rfl⟩ := own_slice o2; obtain ⟨B3, d3, rfl⟩ := own_slice o3; have HB4 := Lib.hid (below_tr HB2.out (Nat.le_refl _) hb); have HS1c := Lib.hid (HS1b.out.below hb HS1b.out.lt); have HS2c := Lib.hid (HS2.out.below hb HS2.out.lt); clear o1 o2 o3 hb))
  obtain ⟨m, hm⟩ : ∃ m, (nats []).length = m := ⟨_, rfl⟩
  rw [hm]
  obtain ⟨z1, z2, z3, hbz⟩ := three43 w4 #[.slice B1 m d1, .int .i64 (sumB ps : Nat), .int .i64 (leastB ps : Nat), .string (textB (els ps ps.length))]
    #[.slice B2 m d2, .int .i64 (sumB qs : Nat), .int .i64 (leastB qs : Nat), .string (textB (els qs qs.length))]
    #[.slice B3 m d3, .int .i64 (sumB (unionW ps qs) : Nat), .int .i64 (leastB (unionW ps qs) : Nat), .string (textB (els (unionW ps qs) (unionW ps qs).length))]
  generalize (((w4.alloc (.cells #[.slice B1 m d1, .int .i64 (sumB ps : Nat), .int .i64 (leastB ps : Nat), .string (textB (els ps ps.length))] 43)).alloc
    (.cells #[.slice B2 m d2, .int .i64 (sumB qs : Nat), .int .i64 (leastB qs : Nat), .string (textB (els qs qs.length))] 43)).alloc
    (.cells #[.slice B3 m d3, .int .i64 (sumB (unionW ps qs) : Nat), .int .i64 (leastB (unionW ps qs) : Nat), .string (textB (els (unionW ps qs) (unionW ps qs).length))] 43)) = w5 at z1 z2 hbz ⊢
  clear z3
  generalize w4.heap.size + 1 = g10 at z2 ⊢
  have HB5 := Lib.hid (below_tr HB4.out (Nat.le_refl _) hbz)
  have HS1d := Lib.hid (HS1c.out.below hbz HS1c.out.lt)
  have HS2d := Lib.hid (HS2c.out.below hbz HS2c.out.lt)
  generalize w4.heap.size = g9 at z1 ⊢
  have hels := els_same (ps := ps) (qs := qs) Lp.out Lq.out (by obtain ⟨DD, _, hDD⟩ := HS1d.out; exact hDD.2.2.1) (by obtain ⟨DD, _, hDD⟩ := HS2d.out; exact hDD.2.2.1)
  generalize Value.int .i64 (sumB ps : Nat) = xa at z1
  generalize Value.int .i64 (leastB ps : Nat) = xb at z1
  generalize Value.int .i64 (sumB qs : Nat) = ya at z2
  generalize Value.int .i64 (leastB qs : Nat) = yb at z2
  clear hbz HS1 HS1b HS1c HS2 HS2c HB4 C1 C2 C16 Hps Hqs
  by_cases he : els ps ps.length = els qs qs.length
  · have hiff : Hid (true = true ↔ ∀ v, inB ps v = inB qs v) := ⟨fun _ => hels.1 he, fun _ => rfl⟩
    rw [← he] at z2
    generalize textB (els ps ps.length) = tx at z1 z2
    obtain ⟨c0, c1', c2', c3, f0, f1, f2, f3⟩ := cells4 z1
    obtain ⟨i0, i1, i2, i3, j0, j1, j2, j3⟩ := cells4 z2
    have HZ1 := Lib.hid z1
    have HZ2 := Lib.hid z2
    clear z1 z2 he hels
    go_region_law (first
      | (go_simp; go_at_call 18; go_fit (same_v _ g1 g2 k1 k2 (inB ps) (inB qs) (by first | exact HS1d.out | exact HS1d.out.below (Below.refl w5.heap.size _).drew HS1d.out.lt) (by first | exact HS2d.out | exact HS2d.out.below (Below.refl w5.heap.size _).drew HS2d.out.lt) hiff.out); rintro e w6 ⟨rfl, hb⟩; have HB6 : Hid (Below w5.heap.size w5 w6) := (by first | exact hb | exact (Below.refl w5.heap.size w5).drew.trans hb); obtain ⟨p0, p1, p2, p3, r0, r1, r2, r3⟩ := cells4 (HZ1.out.below HB6.out HZ1.out.lt); obtain ⟨q0, q1, q2, q3, t0, t1, t2, t3⟩ := cells4 (HZ2.out.below HB6.out HZ2.out.lt); clear hb)
      | (go_simp; go_at_call 15; go_fit (bitAwake_yes _ (by first | exact HT.out.below (below_tr HB5.out (Nat.le_refl _) HB6.out) | exact HT.out.below (below_tr HB5.out (Nat.le_refl _) HB6.out).drew)); rintro e w7 ⟨rfl, hb⟩; have HB7 : Hid (Below w6.heap.size w6 w7) := (by first | exact hb | exact (Below.refl w6.heap.size w6).drew.trans hb); obtain ⟨u0, u1, u2, u3, v0, v1, v2, v3⟩ := cells4 ((HZ1.out.below HB6.out HZ1.out.lt).below HB7.out (HZ1.out.below HB6.out HZ1.out.lt).lt); obtain ⟨y0, y1, y2, y3, s0, s1, s2, s3⟩ := cells4 ((HZ2.out.below HB6.out HZ2.out.lt).below HB7.out (HZ2.out.below HB6.out HZ2.out.lt).lt); clear hb))
    all_goals go_wp2
    all_goals go_ret
    all_goals exact ⟨rfl, below_tr (below_tr HB5.out (Nat.le_refl _) HB6.out) (Nat.le_refl _) HB7.out⟩
  · have hiff : Hid (false = true ↔ ∀ v, inB ps v = inB qs v) := ⟨(fun h => by cases h), fun h => absurd (hels.2 h) he⟩
    have hne : ¬ textB (els ps ps.length) = textB (els qs qs.length) := fun h => he (textB_inj _ _ h)
    generalize textB (els ps ps.length) = tx at z1 hne
    generalize textB (els qs qs.length) = ty at z2 hne
    have hbe : Hid ((tx.toList == ty.toList) = false) := beq_eq_false_iff_ne.2 fun h => hne (by
      rw [ByteArray.toList_eq, ByteArray.toList_eq] at h
      exact ByteArray.ext (Array.toList_inj.1 h))
    have hbq : ¬ tx.toList = ty.toList := fun h => hne (by
      rw [ByteArray.toList_eq, ByteArray.toList_eq] at h
      exact ByteArray.ext (Array.toList_inj.1 h))
    obtain ⟨c0, c1', c2', c3, f0, f1, f2, f3⟩ := cells4 z1
    obtain ⟨i0, i1, i2, i3, j0, j1, j2, j3⟩ := cells4 z2
    have HZ1 := Lib.hid z1
    have HZ2 := Lib.hid z2
    clear z1 z2 he hels
    go_region_law (first
      | (go_simp; go_at_call 18; go_fit (same_v _ g1 g2 k1 k2 (inB ps) (inB qs) (by first | exact HS1d.out | exact HS1d.out.below (Below.refl w5.heap.size _).drew HS1d.out.lt) (by first | exact HS2d.out | exact HS2d.out.below (Below.refl w5.heap.size _).drew HS2d.out.lt) hiff.out); rintro e w6 ⟨rfl, hb⟩; have HB6 : Hid (Below w5.heap.size w5 w6) := (by first | exact hb | exact (Below.refl w5.heap.size w5).drew.trans hb); obtain ⟨p0, p1, p2, p3, r0, r1, r2, r3⟩ := cells4 (HZ1.out.below HB6.out HZ1.out.lt); obtain ⟨q0, q1, q2, q3, t0, t1, t2, t3⟩ := cells4 (HZ2.out.below HB6.out HZ2.out.lt); clear hb)
      | (go_simp; go_at_call 15; go_fit (bitAwake_yes _ (by first | exact HT.out.below (below_tr HB5.out (Nat.le_refl _) HB6.out) | exact HT.out.below (below_tr HB5.out (Nat.le_refl _) HB6.out).drew)); rintro e w7 ⟨rfl, hb⟩; have HB7 : Hid (Below w6.heap.size w6 w7) := (by first | exact hb | exact (Below.refl w6.heap.size w6).drew.trans hb); obtain ⟨u0, u1, u2, u3, v0, v1, v2, v3⟩ := cells4 ((HZ1.out.below HB6.out HZ1.out.lt).below HB7.out (HZ1.out.below HB6.out HZ1.out.lt).lt); obtain ⟨y0, y1, y2, y3, s0, s1, s2, s3⟩ := cells4 ((HZ2.out.below HB6.out HZ2.out.lt).below HB7.out (HZ2.out.below HB6.out HZ2.out.lt).lt); clear hb))
    all_goals go_wp2
    all_goals go_ret
    all_goals refine ⟨?_, below_tr (below_tr HB5.out (Nat.le_refl _) HB6.out) (Nat.le_refl _) HB7.out⟩
    all_goals
      show Ending.returned (.bool (!(tx.toList == ty.toList))) = .returned (.bool true)
      rw [hbe.out]
      rfl
end Go.Proofs.YtiffjbpejlnndaaDoor
