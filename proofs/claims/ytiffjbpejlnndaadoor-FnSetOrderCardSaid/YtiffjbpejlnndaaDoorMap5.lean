/-
  laws.bitAwake answers true. Conditions: the library's two tables as they are laid.
-/
import Derived.Test.YtiffjbpejlnndaaDoorMap4
namespace Go.Proofs.YtiffjbpejlnndaaDoor
open Go.RowKit Go.Maps

theorem NatsAt.blk {w : World} {g U : Nat} {l : List Nat} (h : Blk w g 3 ((l.map fun x : Nat => Value.int .i64 (x : Int)).toArray)) (hg : g < U) : NatsAt w U (some ⟨g, 0, none⟩) l := fun _ =>
  ⟨⟨g, 0, none⟩, rfl, hg, fun i hi => by
    rw [add_new, h.cell]
    simp [List.getD_eq_getElem?_getD, hi]⟩
abbrev W015 (w : World) : World := ((w.alloc (.cells #[.int .i64 3] 3)).alloc (.cells #[.int .i64 4] 3)).alloc (.cells #[.int .i64 3, .int .i64 4] 3)
theorem awake_call (w : World) (hT : Tabs w) : Calls Tryd.prog 16 #[.slice (some ⟨w.heap.size, 0, none⟩) 1 1, .slice none 0 0, .slice (some ⟨w.heap.size + 1, 0, none⟩) 1 1, .slice none 0 0, .slice (some ⟨w.heap.size + 1 + 1, 0, none⟩) 2 2] (W015 w) (BitsPost (W015 w) (setW [3] []) (setW [4] []) [3, 4]) := by
  have q1 := Blk.new w 3 #[.int .i64 3]
  have q2 := Blk.new (w.alloc (.cells #[.int .i64 3] 3)) 3 #[.int .i64 4]
  have q3 := Blk.new ((w.alloc (.cells #[.int .i64 3] 3)).alloc (.cells #[.int .i64 4] 3)) 3 #[.int .i64 3, .int .i64 4]
  have p1 : Blk (W015 w) w.heap.size 3 #[.int .i64 3] := (q1.alloc (.cells #[.int .i64 4] 3)).alloc (.cells #[.int .i64 3, .int .i64 4] 3)
  have p2 : Blk (W015 w) (w.heap.size + 1) 3 #[.int .i64 4] := Blk.alloc (by simpa using q2) (.cells #[.int .i64 3, .int .i64 4] 3)
  have p3 : Blk (W015 w) (w.heap.size + 1 + 1) 3 #[.int .i64 3, .int .i64 4] := by simpa using q3
  have hb : Below w.heap.size w (W015 w) := below_al (below_al (below_al (Below.refl _ _) (Nat.le_refl _)) (Nat.le_refl _)) (Nat.le_refl _)
  exact bits_any (W015 w) (W015 w).heap.size _ none _ none _ 1 0 1 0 2 [3] [] [4] [] [3, 4] (NatsAt.blk p1 p1.lt) (NatsAt.nil _ _) (NatsAt.blk p2 p2.lt) (NatsAt.nil _ _) (NatsAt.blk p3 p3.lt) (Nat.le_refl _)
    (by decide) (by decide) (by decide) (by decide) (by decide) (by decide) (by decide) (by decide) (by decide) (by decide) (hT.below hb)
theorem row1 : hasRow (setW [3] []) [3, 4] = [true, false].map Value.bool := by rfl
theorem row3 : hasRow (unionW (setW [3] []) (setW [4] [])) [3, 4] = [true, true].map Value.bool := by rfl
theorem sum3 : sumB (unionW (setW [3] []) (setW [4] [])) = 2 := by rfl
theorem three43 (W : World) (a b c : Array Value) : Blk (((W.alloc (.cells a 43)).alloc (.cells b 43)).alloc (.cells c 43)) W.heap.size 43 a ∧ Blk (((W.alloc (.cells a 43)).alloc (.cells b 43)).alloc (.cells c 43)) (W.heap.size + 1) 43 b
    ∧ Blk (((W.alloc (.cells a 43)).alloc (.cells b 43)).alloc (.cells c 43)) (W.heap.size + 1 + 1) 43 c ∧ Below W.heap.size W (((W.alloc (.cells a 43)).alloc (.cells b 43)).alloc (.cells c 43)) := by
  have q1 := Blk.new W 43 a
  have q2 := Blk.new (W.alloc (.cells a 43)) 43 b
  have q3 := Blk.new ((W.alloc (.cells a 43)).alloc (.cells b 43)) 43 c
  exact ⟨(q1.alloc _).alloc _, Blk.alloc (by simpa using q2) _, by simpa using q3, below_al (below_al (below_al (Below.refl _ _) (Nat.le_refl _)) (Nat.le_refl _)) (Nat.le_refl _)⟩
theorem rowV_new (X : World) (g : Nat) (xs : List Value) (hg : X.heap.size = g) : RowV (X.alloc (.cells xs.toArray 4)) (some ⟨g, 0, none⟩) xs := by
  subst hg
  exact RowV.of_blk (Blk.new _ 4 _)
set_option maxRecDepth 100000 in
theorem bitAwake_yes (w : World) (hT : Tabs w) : Calls Tryd.prog 15 #[] w (Saw w (.bool true)) := by
  have hb0 : Below w.heap.size w (W015 w) := below_al (below_al (below_al (Below.refl _ _) (Nat.le_refl _)) (Nat.le_refl _)) (Nat.le_refl _)
  have HB0 := Lib.hid hb0
  have HT := Lib.hid hT
  clear hb0 hT
  go_enter Tryd.func15, Tryd.ntmps15
  go_upto_region 2 with (first
    | (go_at_call 16; go_fit (awake_call w HT.out); rintro e w1 ⟨h1, h2, h3, eq, rfl, hb, o1, o2, o3⟩; obtain ⟨A1, c1, rfl⟩ := own_slice o1; obtain ⟨A2, c2, rfl⟩ := own_slice o2; obtain ⟨A3, c3, rfl⟩ := own_slice o3; rw [row1] at o1; rw [row3] at o3; have HR1 := Lib.hid (RowV.of_own o1); have HR3 := Lib.hid (RowV.of_own o3); have HB1 := Lib.hid (below_tr HB0.out (Nat.le_refl _) hb); clear o1 o2 o3 hb))
  obtain ⟨z1, z2, z3, hbz⟩ := three43 w1 #[.slice A1 2 c1, .int .i64 (sumB (setW [3] []) : Nat), .int .i64 (leastB (setW [3] []) : Nat), .string (textB (els (setW [3] []) (setW [3] []).length))]
    #[.slice A2 2 c2, .int .i64 (sumB (setW [4] []) : Nat), .int .i64 (leastB (setW [4] []) : Nat), .string (textB (els (setW [4] []) (setW [4] []).length))]
    #[.slice A3 2 c3, .int .i64 (sumB (unionW (setW [3] []) (setW [4] [])) : Nat), .int .i64 (leastB (unionW (setW [3] []) (setW [4] [])) : Nat), .string (textB (els (unionW (setW [3] []) (setW [4] [])) (unionW (setW [3] []) (setW [4] [])).length))]
  generalize (((w1.alloc (.cells #[.slice A1 2 c1, .int .i64 (sumB (setW [3] []) : Nat), .int .i64 (leastB (setW [3] []) : Nat), .string (textB (els (setW [3] []) (setW [3] []).length))] 43)).alloc
    (.cells #[.slice A2 2 c2, .int .i64 (sumB (setW [4] []) : Nat), .int .i64 (leastB (setW [4] []) : Nat), .string (textB (els (setW [4] []) (setW [4] []).length))] 43)).alloc
    (.cells #[.slice A3 2 c3, .int .i64 (sumB (unionW (setW [3] []) (setW [4] [])) : Nat), .int .i64 (leastB (unionW (setW [3] []) (setW [4] [])) : Nat), .string (textB (els (unionW (setW [3] []) (setW [4] [])) (unionW (setW [3] []) (setW [4] [])).length))] 43)) = w3 at z1 z2 z3 hbz ⊢
  rw [sum3] at z3
  generalize w1.heap.size + 1 + 1 = g3 at z3 ⊢
  have HR1' := Lib.hid (HR1.out.below hbz)
  have HR3' := Lib.hid (HR3.out.below hbz)
  have HB3 := Lib.hid (below_tr HB1.out (Nat.le_refl _) hbz)
  obtain ⟨k0, k1, k2, k3, f0, f1, f2, f3⟩ := cells4 z1
  obtain ⟨l0, l1, l2, l3, m0, m1, m2, m3⟩ := cells4 z3
  have HZ3 := Lib.hid z3
  clear z1 z2 z3 hbz
  go_wp2_with (first
    | (go_at_call 32; go_fit (equal_yes _ A1 (some ⟨w3.heap.size, 0, none⟩) c1 2 [true, false] (HR1'.out.below ((Below.refl _ _).alloc (Nat.le_refl _) _)) (rowV_new w3 _ _ rfl) (by decide)); rintro e w4 ⟨rfl, hb⟩; have hb4 := below_tr ((Below.refl w3.heap.size w3).alloc (Nat.le_refl _) _) (Nat.le_refl _) hb; have HB4 := Lib.hid hb4; obtain ⟨p0, p1, p2, p3, q0, q1, q2, q3⟩ := cells4 (HZ3.out.below hb4 HZ3.out.lt); have HR3b := Lib.hid (HR3'.out.below hb4); clear hb hb4)
    | (go_at_call 32; go_fit (equal_yes _ A3 (some ⟨w4.heap.size, 0, none⟩) c3 2 [true, true] (HR3b.out.below ((Below.refl _ _).alloc (Nat.le_refl _) _)) (rowV_new w4 _ _ rfl) (by decide)); rintro e w5 ⟨rfl, hb⟩; have hb5 := below_tr ((Below.refl w4.heap.size w4).alloc (Nat.le_refl _) _) (Nat.le_refl _) hb; have HB5 := Lib.hid hb5; have r1 := ((HZ3.out.below HB4.out HZ3.out.lt).below hb5 (HZ3.out.below HB4.out HZ3.out.lt).lt).cell 1; clear hb hb5))
  go_ret
  exact ⟨rfl, below_tr (below_tr HB3.out (Nat.le_refl _) HB4.out) (Nat.le_refl _) HB5.out⟩
end Go.Proofs.YtiffjbpejlnndaaDoor
