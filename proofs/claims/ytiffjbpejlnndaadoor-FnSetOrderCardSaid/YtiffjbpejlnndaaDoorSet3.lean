/-
  laws.setAwake answers true. Conditions: the library's tables as they are laid.
-/
import Derived.Test.YtiffjbpejlnndaaDoorSet1
import Derived.Test.YtiffjbpejlnndaaDoorMap5
namespace Go.Proofs.YtiffjbpejlnndaaDoor
open Go.RowKit

theorem toldRow_length (hs rs : Nat → Value) (F : Nat → List Rng) : ∀ k, (toldRow hs rs F k).length = k * 5
  | 0 => rfl
  | k + 1 => by
    unfold toldRow
    rw [List.length_append, toldRow_length hs rs F k]
    show k * 5 + 5 = _
    omega
theorem toldRow_at (hs rs : Nat → Value) (F : Nat → List Rng) : ∀ {k j : Nat}, j < k → ∀ i, i < 5 → (toldRow hs rs F k)[j * 5 + i]? = [hs j, .int .i64 (lenR (F j)), .int .i64 (leastI (F j)), rs j, .string (textI (F j))][i]?
  | k + 1, j, h, i, hi => by
    unfold toldRow
    by_cases e : j = k
    · subst e
      rw [List.getElem?_append_right (by rw [toldRow_length]; omega), toldRow_length, show j * 5 + i - j * 5 = i by omega]
    · rw [List.getElem?_append_left (by rw [toldRow_length]; omega)]
      exact toldRow_at hs rs F (by omega) i hi
/-- What the four sets tell, read. -/
structure ToldAt (w : World) (F : Nat → List Rng) (asks : List Int) (g : Nat) (hs rs : Nat → Value) (W : World) : Prop where
  lt : g < W.heap.size
  has : ∀ j, j < 4 → W.cell? ⟨g, j * 5, none⟩ = some (hs j)
  len : ∀ j, j < 4 → W.cell? ⟨g, j * 5 + 1, none⟩ = some (.int .i64 (lenR (F j)))
  least : ∀ j, j < 4 → W.cell? ⟨g, j * 5 + 2, none⟩ = some (.int .i64 (leastI (F j)))
  runs : ∀ j, j < 4 → W.cell? ⟨g, j * 5 + 3, none⟩ = some (rs j)
  text : ∀ j, j < 4 → W.cell? ⟨g, j * 5 + 4, none⟩ = some (.string (textI (F j)))
  hown : ∀ j, j < 4 → W.ownsRow w.heap.size 4 1 (hs j) asks.length (hasI (F j) asks)
  rown : ∀ j, j < 4 → W.ownsRow w.heap.size 62 2 (rs j) (F j).length (rowJ (F j))
theorem Told.at_ {w W : World} {F : Nat → List Rng} {asks : List Int} {tv : Value} (h : Told w F asks 4 tv W) : ∃ g c hs rs, tv = .slice (some ⟨g, 0, none⟩) 4 c ∧ ToldAt w F asks g hs rs W := by
  obtain ⟨hs, rs, h1, h2⟩ := h
  rcases own_form h1 with ⟨h0, _⟩ | ⟨g, c, e, _, hg, _, hc⟩
  · omega
  · refine ⟨g, c, hs, rs, e, hg, fun j hj => ?_, fun j hj => ?_, fun j hj => ?_, fun j hj => ?_, fun j hj => ?_, fun j hj => (h2 j hj).1, fun j hj => (h2 j hj).2⟩
    · exact hc _ _ (toldRow_at hs rs F hj 0 (by omega))
    · exact hc _ _ (toldRow_at hs rs F hj 1 (by omega))
    · exact hc _ _ (toldRow_at hs rs F hj 2 (by omega))
    · exact hc _ _ (toldRow_at hs rs F hj 3 (by omega))
    · exact hc _ _ (toldRow_at hs rs F hj 4 (by omega))
theorem ToldAt.keep {w W W' : World} {F : Nat → List Rng} {asks : List Int} {g : Nat} {hs rs : Nat → Value} (h : ToldAt w F asks g hs rs W) (hb : Below W.heap.size W W') : ToldAt w F asks g hs rs W' := by
  have c := fun (i : Nat) => hb.cell (p := ⟨g, i, none⟩) h.lt
  exact ⟨Nat.lt_of_lt_of_le h.lt hb.size, fun j hj => (c _).trans (h.has j hj), fun j hj => (c _).trans (h.len j hj), fun j hj => (c _).trans (h.least j hj), fun j hj => (c _).trans (h.runs j hj), fun j hj => (c _).trans (h.text j hj), fun j hj => own_below (h.hown j hj) hb, fun j hj => own_below (h.rown j hj) hb⟩
theorem steps_blk {w : World} {g U : Nat} {t : TypeId} {l : List Stp} (h : Blk w g t (stepRow l).toArray) (hg : g < U) : StepsAt w U (some ⟨g, 0, none⟩) l := fun _ => by
  refine ⟨⟨g, 0, none⟩, rfl, hg, fun k s hs => ?_⟩
  obtain ⟨a1, a2, a3, a4⟩ := stepRow_at l k s hs
  rw [add_new, add_new, add_new, add_new, h.cell, h.cell, h.cell, h.cell]
  exact ⟨by simpa using a1, by simpa using a2, by simpa using a3, by simpa using a4⟩
theorem ints_blk {w : World} {g U : Nat} {t : TypeId} {l : List Int} (h : Blk w g t (intsV l).toArray) (hg : g < U) : IntsAt w U (some ⟨g, 0, none⟩) l := fun _ => by
  refine ⟨⟨g, 0, none⟩, rfl, hg, fun i hi => ?_⟩
  rw [add_new, h.cell]
  simp [intsV, List.getD_eq_getElem?_getD, List.getElem?_eq_getElem hi]
def FA : Nat → List Rng := putF F0 0 [(3, 6)]
theorem FA_steps : stepsP F0 [⟨1, 0, 3, 5⟩] = some FA := by
  have h : addP (F0 0) 3 5 = some [(3, 6)] := by rfl
  show (stepP F0 ⟨1, ((0 : Nat) : Int), 3, 5⟩).bind (fun G => some G) = some FA
  rw [stepP_range (by omega), h]
  rfl
theorem FA_has : hasI (FA 0) [2, 3, 5, 6] = [false, true, true, false].map Value.bool := by rfl
theorem FA_len : lenR (FA 0) = 3 := by rfl
abbrev W20 (w : World) : World := (w.alloc (.cells #[.int .u8 1, .int .i64 0, .int .i64 3, .int .i64 5] 95)).alloc (.cells #[.int .i64 2, .int .i64 3, .int .i64 5, .int .i64 6] 3)
theorem setAwake_call (w : World) (hT : Tabs w) : Calls Tryd.prog 30 #[.slice (some ⟨w.heap.size, 0, none⟩) 1 1, .slice (some ⟨w.heap.size + 1, 0, none⟩) 4 4] (W20 w) (SetsTold (W20 w) FA [2, 3, 5, 6]) := by
  have q1 := Blk.new w 95 #[.int .u8 1, .int .i64 0, .int .i64 3, .int .i64 5]
  have q2 := Blk.new (w.alloc (.cells #[.int .u8 1, .int .i64 0, .int .i64 3, .int .i64 5] 95)) 3 #[.int .i64 2, .int .i64 3, .int .i64 5, .int .i64 6]
  have p1 : Blk (W20 w) w.heap.size 95 (stepRow [⟨1, 0, 3, 5⟩]).toArray := q1.alloc (.cells #[.int .i64 2, .int .i64 3, .int .i64 5, .int .i64 6] 3)
  have p2 : Blk (W20 w) (w.heap.size + 1) 3 (intsV [2, 3, 5, 6]).toArray := by
    have e : (w.alloc (.cells #[.int .u8 1, .int .i64 0, .int .i64 3, .int .i64 5] 95)).heap.size = w.heap.size + 1 := by simp
    rw [e] at q2
    exact q2
  have hb : Below w.heap.size w (W20 w) := below_al (below_al (Below.refl _ _) (Nat.le_refl _)) (Nat.le_refl _)
  exact sets_any (W20 w) (W20 w).heap.size _ _ 1 4 [⟨1, 0, 3, 5⟩] [2, 3, 5, 6] FA (steps_blk p1 p1.lt) (ints_blk p2 p2.lt) (Nat.le_refl _) (by decide) (by decide) FA_steps (hT.below hb)
set_option maxRecDepth 100000 in
theorem setAwake_yes (w : World) (hT : Tabs w) : Calls Tryd.prog 20 #[] w (Saw w (.bool true)) := by
  have hb0 : Below w.heap.size w (W20 w) := below_al (below_al (Below.refl _ _) (Nat.le_refl _)) (Nat.le_refl _)
  have HB0 := Lib.hid hb0
  have HT := Lib.hid hT
  clear hb0 hT
  go_enter Tryd.func20, Tryd.ntmps20
  go_upto_region 2 with (go_at_call 30; go_fit (setAwake_call w HT.out); rintro e w1 ⟨tv, x, rfl, hb, htd⟩; obtain ⟨g, c, hs, rs, rfl, hta⟩ := htd.at_; have HB1 := Lib.hid (below_tr HB0.out (Nat.le_refl _) hb); have HA := Lib.hid hta; clear hb htd hta)
  have ho := HA.out.hown 0 (by omega)
  obtain ⟨A0, c0, e0⟩ := own_slice ho
  have k0 := HA.out.has 0 (by omega)
  have k1 := HA.out.len 0 (by omega)
  have hgl := HA.out.lt
  rw [e0] at k0 ho
  rw [FA_len] at k1
  rw [FA_has] at ho
  have HR := Lib.hid (RowV.of_own ho)
  clear ho e0
  go_wp2_with (go_at_call 32; go_fit (equal_yes _ A0 (some ⟨w1.heap.size, 0, none⟩) c0 4 [false, true, true, false] (HR.out.below ((Below.refl _ _).alloc (Nat.le_refl _) _)) (rowV_new w1 _ _ rfl) (by decide)); rintro e w4 ⟨rfl, hb⟩; have hb4 := below_tr ((Below.refl w1.heap.size w1).alloc (Nat.le_refl _) _) (Nat.le_refl _) hb; have HB4 := Lib.hid hb4; have r1 := (HA.out.keep hb4).len 0 (by omega); rw [FA_len] at r1; clear hb hb4)
  go_ret
  exact ⟨rfl, below_tr HB1.out (Nat.le_refl _) HB4.out⟩
end Go.Proofs.YtiffjbpejlnndaaDoor
