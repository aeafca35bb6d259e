/-
  impl.Sets: what one set tells, step by step. Conditions: none.
-/
import Derived.Test.YtiffjbpejlnndaaDoorImp0
import Derived.Test.YtiffjbpejlnndaaDoorMap4
namespace Go.Proofs.YtiffjbpejlnndaaDoor
open Go.RowKit

abbrev Z60c : Array Value := #[.slice none 0 0, .int .i64 0, .int .i64 0, .slice none 0 0, .string ⟨#[]⟩]
abbrev Z60 : Obj := .cells Z60c 60
/-- Behind world v, in which the set's pointer has been boxed. -/
def TX (v : World) (b : Nat) (W : World) : Prop := Below v.heap.size v W ∧ Blk W v.heap.size 100 #[.pointer (some ⟨b, 0, none⟩)]
theorem TX.start (v : World) (b : Nat) : TX v b (v.alloc (P100 b)) := ⟨below_box _ _, Blk.new _ _ _⟩
theorem TX.alloc {v W : World} {b : Nat} (h : TX v b W) (o : Obj) : TX v b (W.alloc o) := ⟨below_al h.1 (Nat.le_refl _), h.2.alloc o⟩
theorem TX.drew {v W : World} {b : Nat} (h : TX v b W) : TX v b W.drew := ⟨h.1.drew, h.2.drew⟩
theorem TX.step {v W W2 : World} {b : Nat} (h : TX v b W) (k : Below W.heap.size W W2) : TX v b W2 := ⟨below_tr h.1 (Nat.le_refl _) k, h.2.below k h.2.lt⟩
theorem TX.below {v W : World} {b : Nat} (h : TX v b W) : Below v.heap.size v W := h.1
theorem TX.cell {v W : World} {b : Nat} (h : TX v b W) : W.cell? ⟨v.heap.size, 0, none⟩ = some (.pointer (some ⟨b, 0, none⟩)) := h.2.cell 0
theorem TX.ne {v W : World} {b : Nat} (h : TX v b W) : ¬ W.heap.size = v.heap.size := by have := h.2.lt; omega
theorem TX.ne' {v W : World} {b : Nat} (h : TX v b W) : ¬ v.heap.size = W.heap.size := by have := h.2.lt; omega
theorem TX.lt {v W : World} {b : Nat} (h : TX v b W) : v.heap.size < W.heap.size := h.2.lt
theorem TX.set {v W : World} {b g : Nat} (h : TX v b W) (hg : v.heap.size < g) (i : Nat) (u : Value) : TX v b (W.setCell ⟨g, i, none⟩ u) :=
  ⟨h.1.setCell (p := ⟨g, i, none⟩) (show v.heap.size ≤ g by omega) u, h.2.far (p := ⟨g, i, none⟩) (show v.heap.size ≠ g by omega) u⟩
def set5 (W : World) (g : Nat) (x0 x1 x2 x3 x4 : Value) : World := ((((W.setCell ⟨g, 0, none⟩ x0).setCell ⟨g, 1, none⟩ x1).setCell ⟨g, 2, none⟩ x2).setCell ⟨g, 3, none⟩ x3).setCell ⟨g, 4, none⟩ x4
theorem TX.set5 {v W : World} {b g : Nat} (h : TX v b W) (hg : v.heap.size < g) (x0 x1 x2 x3 x4 : Value) : TX v b (((((W.setCell ⟨g, 0, none⟩ x0).setCell ⟨g, 1, none⟩ x1).setCell ⟨g, 2, none⟩ x2).setCell ⟨g, 3, none⟩ x3).setCell ⟨g, 4, none⟩ x4) :=
  ((((h.set hg 0 x0).set hg 1 x1).set hg 2 x2).set hg 3 x3).set hg 4 x4
theorem blk5 {W : World} {g : Nat} {t : TypeId} {y0 y1 y2 y3 y4 x0 : Value} (h : Blk W g t #[y0, y1, y2, y3, y4]) (x1 x2 x3 x4 : Value) : Blk (((((W.setCell ⟨g, 0, none⟩ x0).setCell ⟨g, 1, none⟩ x1).setCell ⟨g, 2, none⟩ x2).setCell ⟨g, 3, none⟩ x3).setCell ⟨g, 4, none⟩ x4) g t #[x0, x1, x2, x3, x4] := by
  have := ((((h.set_ 0 x0).set_ 1 x1).set_ 2 x2).set_ 3 x3).set_ 4 x4
  simpa using this
theorem cells5 {W : World} {g : Nat} {t : TypeId} {y0 y1 y2 y3 y4 : Value} (h : Blk W g t #[y0, y1, y2, y3, y4]) :
    W.cell? ⟨g, 0, none⟩ = some y0 ∧ W.cell? ⟨g, 1, none⟩ = some y1 ∧ W.cell? ⟨g, 2, none⟩ = some y2 ∧ W.cell? ⟨g, 3, none⟩ = some y3 ∧ W.cell? ⟨g, 4, none⟩ = some y4
      ∧ W.frozen? ⟨g, 0, none⟩ = false ∧ W.frozen? ⟨g, 1, none⟩ = false ∧ W.frozen? ⟨g, 2, none⟩ = false ∧ W.frozen? ⟨g, 3, none⟩ = false ∧ W.frozen? ⟨g, 4, none⟩ = false :=
  ⟨h.cell 0, h.cell 1, h.cell 2, h.cell 3, h.cell 4, h.frozen 0, h.frozen 1, h.frozen 2, h.frozen 3, h.frozen 4⟩
theorem zblk6 {X W2 : World} (hb : Below (X.alloc Z60).heap.size (X.alloc Z60) W2) : Blk W2 X.heap.size 60 Z60c := (Blk.new X 60 _).below hb (by simp)
theorem zblk6d {X W2 : World} (hb : Below (X.alloc Z60).drew.heap.size (X.alloc Z60).drew W2) : Blk W2 X.heap.size 60 Z60c := (Blk.new X 60 _).drew.below hb (show X.heap.size < (X.alloc Z60).heap.size by simp)
/-- What stays where one row alone is written: all of another type. -/
theorem side_blk {W W' : World} {B s n g : Nat} {e t : TypeId} {v : Value} {xs : List Value} {cs : Array Value} (h : W.ownsRow B e s v n xs) (hg : W.grownBy W' v.ownBlock) (hb : Blk W g t cs) (hne : e ≠ t) : Blk W' g t cs := hb.grown hg (fun e2 => own_ne h hb hne e2.symm)
theorem side_own {W W' : World} {B s n base s2 n2 : Nat} {e e2 : TypeId} {v u : Value} {xs ys : List Value} (h : W.ownsRow B e s v n xs) (hg : W.grownBy W' v.ownBlock) (hu : W.ownsRow base e2 s2 u n2 ys) (hne : e ≠ e2) : W'.ownsRow base e2 s2 u n2 ys := by
  refine ⟨hu.1, ?_⟩
  rcases hu.2 with hn | ⟨g, cap, cur, rfl, hb, hh, rest⟩
  · exact .inl hn
  · exact .inr ⟨g, cap, cur, rfl, hb, side_blk h hg (t := e2) (cs := cur) hh hne, rest⟩
theorem side_is {W W' : World} {B0 s n B b : Nat} {e : TypeId} {v u : Value} {xs : List Value} {l : List Rng} (h : W.ownsRow B0 e s v n xs) (hg : W.grownBy W' v.ownBlock) (hi : IS W B b u l) (h1 : e ≠ 142) (h2 : e ≠ 109) : IS W' B b u l :=
  ⟨hi.1, side_blk h hg hi.2.1 h1, side_own h hg hi.2.2.1 h2, hi.2.2.2⟩
theorem side_fs {w W W' : World} {z k s n : Nat} {bs : Nat → Nat} {vs : Nat → Value} {F : Nat → List Rng} {v : Value} {xs : List Value} (h : W.ownsRow w.heap.size 60 s v n xs) (hg : W.grownBy W' v.ownBlock) (hf : FS w z k bs vs F W) : FS w z k bs vs F W' :=
  ⟨hf.below.grown hg hf.below.size (fun j hj => (h.lt j hj).1), hf.ge, side_blk h hg hf.blk (by decide), fun i hi => side_is h hg (hf.is i hi) (by decide) (by decide), hf.apart⟩
/-- A number's mark is appended, and stored. -/
theorem has_step {v w2 w3 : World} {b g k : Nat} {hv v3 y1 y2 y3 y4 : Value} {xs ys : List Value} {o : Obj} (ho : w2.ownsRow v.heap.size 4 1 hv k xs) (ht : TX v b w2) (hz : Blk w2 g 60 #[hv, y1, y2, y3, y4]) (hg : v.heap.size < g)
    (hgrow : (w2.alloc o).grownBy w3 hv.ownBlock) (hown : w3.ownsRow v.heap.size 4 1 v3 (k + 1) ys) :
    w3.cell? ⟨g, 0, none⟩ = some hv ∧ w3.frozen? ⟨g, 0, none⟩ = false ∧ w3.cell? ⟨v.heap.size, 0, none⟩ = some (.pointer (some ⟨b, 0, none⟩))
      ∧ (TX v b (w3.setCell ⟨g, 0, none⟩ v3) ∧ Blk (w3.setCell ⟨g, 0, none⟩ v3) g 60 #[v3, y1, y2, y3, y4] ∧ (w3.setCell ⟨g, 0, none⟩ v3).ownsRow v.heap.size 4 1 v3 (k + 1) ys) := by
  have hz3 := side_blk (ho.alloc o) hgrow (hz.alloc o) (by decide)
  have hx3 := side_blk (ho.alloc o) hgrow (ht.2.alloc o) (by decide)
  have ht3 : TX v b w3 := ⟨(below_al ht.1 (Nat.le_refl _)).grown hgrow (by have := ht.1.size; simp; omega) (fun j hj => (ho.lt j hj).1), hx3⟩
  exact ⟨hz3.cell 0, hz3.frozen 0, hx3.cell 0, ht3.set hg 0 v3, by simpa using hz3.set_ 0 v3, own_far hown hz3 (by decide) 0 v3⟩
/-- A run is appended, and stored. -/
theorem run_step {v w2 w3 : World} {b g k m : Nat} {hv rv v3 y1 y2 y4 : Value} {xs ys hs : List Value} {o : Obj} (ho : w2.ownsRow v.heap.size 62 2 rv k xs) (hh : w2.ownsRow v.heap.size 4 1 hv m hs) (ht : TX v b w2) (hz : Blk w2 g 60 #[hv, y1, y2, rv, y4]) (hg : v.heap.size < g)
    (hgrow : (w2.alloc o).grownBy w3 rv.ownBlock) (hown : w3.ownsRow v.heap.size 62 2 v3 (k + 1) ys) :
    w3.cell? ⟨g, 3, none⟩ = some rv ∧ w3.frozen? ⟨g, 3, none⟩ = false
      ∧ (TX v b (w3.setCell ⟨g, 3, none⟩ v3) ∧ Blk (w3.setCell ⟨g, 3, none⟩ v3) g 60 #[hv, y1, y2, v3, y4] ∧ (w3.setCell ⟨g, 3, none⟩ v3).ownsRow v.heap.size 62 2 v3 (k + 1) ys ∧ (w3.setCell ⟨g, 3, none⟩ v3).ownsRow v.heap.size 4 1 hv m hs) := by
  have hz3 := side_blk (ho.alloc o) hgrow (hz.alloc o) (by decide)
  have hx3 := side_blk (ho.alloc o) hgrow (ht.2.alloc o) (by decide)
  have hh3 := side_own (ho.alloc o) hgrow (hh.alloc o) (by decide)
  have ht3 : TX v b w3 := ⟨(below_al ht.1 (Nat.le_refl _)).grown hgrow (by have := ht.1.size; simp; omega) (fun j hj => (ho.lt j hj).1), hx3⟩
  exact ⟨hz3.cell 3, hz3.frozen 3, ht3.set hg 3 v3, by simpa using hz3.set_ 3 v3, own_far hown hz3 (by decide) 3 v3, own_far hh3 hz3 (by decide) 3 v3⟩
theorem info60 : (Tryd.prog.info? 60).map (fun i => (i.zero, i.size, i.bytes)) = some (some (.agg Z60c), 5, 80) := by kernel_rfl
/-- What one set more tells. -/
theorem Told.new {w v W W' : World} {F : Nat → List Rng} {asks : List Int} {k : Nat} {tv tv' hv rv : Value} {o : Obj} {hs rs : Nat → Value} (h1 : W.ownsRow w.heap.size 60 5 tv k (toldRow hs rs F k))
    (h2 : ∀ j, j < k → W.ownsRow w.heap.size 4 1 (hs j) asks.length (hasI (F j) asks) ∧ W.ownsRow w.heap.size 62 2 (rs j) (F j).length (rowJ (F j))) (hsz : w.heap.size ≤ v.heap.size)
    (hh : W.ownsRow v.heap.size 4 1 hv asks.length (hasI (F k) asks)) (hr : W.ownsRow v.heap.size 62 2 rv (F k).length (rowJ (F k)))
    (hg : (W.alloc o).grownBy W' tv.ownBlock) (h3 : W'.ownsRow w.heap.size 60 5 tv' (k + 1) (toldRow hs rs F k ++ [hv, .int .i64 (lenR (F k)), .int .i64 (leastI (F k)), rv, .string (textI (F k))])) : Told w F asks (k + 1) tv' W' := by
  have e1 : toldRow hs rs F k = toldRow (upd hs k hv) (upd rs k rv) F k := toldRow_ext fun j hj => ⟨(upd_ne _ _ (by omega)).symm, (upd_ne _ _ (by omega)).symm⟩
  refine ⟨upd hs k hv, upd rs k rv, ?_, fun j hj => ?_⟩
  · unfold toldRow
    rw [upd_self, upd_self, ← e1]
    exact h3
  · by_cases e : j = k
    · subst e
      rw [upd_self, upd_self]
      exact ⟨side_own (h1.alloc o) hg ((hh.mono hsz).alloc o) (by decide), side_own (h1.alloc o) hg ((hr.mono hsz).alloc o) (by decide)⟩
    · rw [upd_ne _ _ e, upd_ne _ _ e]
      exact ⟨side_own (h1.alloc o) hg ((h2 j (by omega)).1.alloc o) (by decide), side_own (h1.alloc o) hg ((h2 j (by omega)).2.alloc o) (by decide)⟩
theorem told_one {hv rv : Value} {a b : Int} {t : ByteArray} {w : World} {B1 B2 n1 n2 s1 s2 : Nat} {e1 e2 : TypeId} {xs ys : List Value} (h1 : w.ownsRow B1 e1 s1 hv n1 xs) (h2 : w.ownsRow B2 e2 s2 rv n2 ys) :
    ∀ u ∈ [hv, .int .i64 a, .int .i64 b, rv, .string t], u.oneCell' = true := by
  obtain ⟨A, c, rfl⟩ := own_slice h1
  obtain ⟨A2, c2, rfl⟩ := own_slice h2
  intro u hu
  simp at hu
  rcases hu with rfl | rfl | rfl | rfl | rfl <;> rfl
theorem rowJ_take_snoc (l : List Rng) (k : Nat) (p : Rng) (h : l[k]? = some p) : rowJ (l.take (k + 1)) = rowJ (l.take k) ++ [.int .i64 p.1, .int .i64 (p.2 - 1)] := by
  rw [take_at h, rowJ_append]
  rfl
end Go.Proofs.YtiffjbpejlnndaaDoor
