/-
  The door's bit sets: impl.Bits. Conditions: numbers from 0 to 1000 (those that go in: to 200); at most 1000 asked.
-/
import Derived.Test.YtiffjbpejlnndaaDoorBit11
import Derived.Deep.Onto
namespace Go.Proofs.YtiffjbpejlnndaaDoor
open Go.RowKit

theorem len_add (ws : List Nat) (v : Nat) : (addB ws v).length = max ws.length (v / 64 + 1) := by
  unfold addB
  rw [List.length_set, growB_length]
theorem len_del (ws : List Nat) (v : Nat) : (delB ws v).length = ws.length := by
  unfold delB
  split
  · rw [List.length_set]
  · rfl
theorem len_set (l1 l2 : List Nat) (h1 : ∀ x ∈ l1, x ≤ 200) : (setW l1 l2).length ≤ 16 := by
  have a : ∀ (l : List Nat) (s : List Nat), s.length ≤ 4 → (∀ x ∈ l, x ≤ 200) → (l.foldl addB s).length ≤ 4 := by
    intro l
    induction l with
    | nil => intro s hs _; exact hs
    | cons x r ih =>
      intro s hs hx
      refine ih _ ?_ fun y hy => hx y (List.mem_cons_of_mem _ hy)
      rw [len_add]
      have := hx x List.mem_cons_self
      omega
  have d : ∀ (l : List Nat) (s : List Nat), (l.foldl delB s).length = s.length := by
    intro l
    induction l with
    | nil => intro s; rfl
    | cons x r ih =>
      intro s
      exact (ih _).trans (len_del s x)
  unfold setW
  rw [d]
  exact Nat.le_trans (a l1 [] (by simp) h1) (by omega)
theorem len_or (ws vs : List Nat) (h1 : ws.length ≤ 16) (h2 : vs.length ≤ 16) : (orB ws vs).length ≤ 16 := by
  unfold orB
  rw [orUpto_length]
  have := minB_le ws
  have := minB_le vs
  omega

def unionW (ps qs : List Nat) : List Nat := orB (orB [] ps) qs
abbrev toldV (hv : Value) (ws : List Nat) : Value := .agg #[hv, .int .i64 (sumB ws : Nat), .int .i64 (leastB ws : Nat), .string (textB (els ws ws.length))]
def BitsPost (w : World) (ps qs asked : List Nat) (e : Ending) (w' : World) : Prop :=
  ∃ h1 h2 h3 eq, e = .returned (.tuple #[toldV h1 ps, toldV h2 qs, toldV h3 (unionW ps qs), .bool eq, .bool eq]) ∧ Below w.heap.size w w'
    ∧ w'.ownsRow w.heap.size 4 1 h1 asked.length (hasRow ps asked) ∧ w'.ownsRow w.heap.size 4 1 h2 asked.length (hasRow qs asked) ∧ w'.ownsRow w.heap.size 4 1 h3 asked.length (hasRow (unionW ps qs) asked)

abbrev Z43c : Array Value := #[.slice none 0 0, .int .i64 0, .int .i64 0, .string ⟨#[]⟩]
/-- The variables of the call at the start. -/
def BI (w : World) (a : Value) (z1 z2 z3 : Nat) (W : World) : Prop := Below w.heap.size w W ∧ Blk W w.heap.size 29 #[a] ∧ Blk W z1 43 Z43c ∧ Blk W z2 43 Z43c ∧ Blk W z3 43 Z43c
theorem BI.start (w : World) (a : Value) : BI w a (w.heap.size + 1) (w.heap.size + 1 + 1) (w.heap.size + 1 + 1 + 1) ((((w.alloc (.cells #[a] 29)).alloc Z43).alloc Z43).alloc Z43) := by
  have q1 := Blk.new (w.alloc (.cells #[a] 29)) 43 Z43c
  have q2 := Blk.new ((w.alloc (.cells #[a] 29)).alloc Z43) 43 Z43c
  have q3 := Blk.new (((w.alloc (.cells #[a] 29)).alloc Z43).alloc Z43) 43 Z43c
  refine ⟨below_al (below_al (below_al (below_al (Below.refl _ _) (Nat.le_refl _)) (Nat.le_refl _)) (Nat.le_refl _)) (Nat.le_refl _), (((Blk.new _ _ _).alloc _).alloc _).alloc _, ?_, ?_, ?_⟩
  · exact (Blk.alloc (Blk.alloc (by simpa using q1) _) _)
  · exact (Blk.alloc (by simpa using q2) _)
  · simpa using q3
theorem BI.step {w W W2 : World} {a : Value} {z1 z2 z3 : Nat} (h : BI w a z1 z2 z3 W) (k : Below W.heap.size W W2) : BI w a z1 z2 z3 W2 :=
  ⟨below_tr h.1 (Nat.le_refl _) k, h.2.1.below k h.2.1.lt, h.2.2.1.below k h.2.2.1.lt, h.2.2.2.1.below k h.2.2.2.1.lt, h.2.2.2.2.below k h.2.2.2.2.lt⟩
theorem BI.alloc {w W : World} {a : Value} {z1 z2 z3 : Nat} (h : BI w a z1 z2 z3 W) (o : Obj) : BI w a z1 z2 z3 (W.alloc o) := h.step ((Below.refl _ _).alloc (Nat.le_refl _) _)
theorem BI.keep {w W W2 : World} {a : Value} {z1 z2 z3 B : Nat} (h : BI w a z1 z2 z3 W) (hb : Below B W W2) (hB : w.heap.size ≤ B) (k : Keep W W2) : BI w a z1 z2 z3 W2 :=
  ⟨h.1.trans (hb.mono hB), k _ _ _ (by decide) (by decide) h.2.1, k _ _ _ (by decide) (by decide) h.2.2.1, k _ _ _ (by decide) (by decide) h.2.2.2.1, k _ _ _ (by decide) (by decide) h.2.2.2.2⟩
def BJ (w : World) (a : Value) (z1 z2 z3 v1 v2 v3 b1 b2 b3 B : Nat) (ps qs us : List Nat) (W : World) : Prop :=
  BI w a z1 z2 z3 W ∧ Blk W v1 85 #[.pointer (some ⟨b1, 0, none⟩)] ∧ Blk W v2 85 #[.pointer (some ⟨b2, 0, none⟩)] ∧ Blk W v3 85 #[.pointer (some ⟨b3, 0, none⟩)] ∧ BV W B b1 ps ∧ BV W B b2 qs ∧ BS W B b3 us ∧ w.heap.size ≤ B ∧ B ≤ W.heap.size
theorem BJ.step {w W W2 : World} {a : Value} {z1 z2 z3 v1 v2 v3 b1 b2 b3 B : Nat} {ps qs us : List Nat} (h : BJ w a z1 z2 z3 v1 v2 v3 b1 b2 b3 B ps qs us W) (k : Below W.heap.size W W2) : BJ w a z1 z2 z3 v1 v2 v3 b1 b2 b3 B ps qs us W2 := by
  obtain ⟨i, k1, k2, k3, p1, p2, p3, q1, q2⟩ := h
  exact ⟨i.step k, k1.below k k1.lt, k2.below k k2.lt, k3.below k k3.lt, p1.below k q2, p2.below k q2, p3.below k, q1, Nat.le_trans q2 k.size⟩
theorem BJ.drew {w W : World} {a : Value} {z1 z2 z3 v1 v2 v3 b1 b2 b3 B : Nat} {ps qs us : List Nat} (h : BJ w a z1 z2 z3 v1 v2 v3 b1 b2 b3 B ps qs us W) : BJ w a z1 z2 z3 v1 v2 v3 b1 b2 b3 B ps qs us W.drew := h.step (Below.refl _ _).drew
theorem BJ.or {w W W2 : World} {a : Value} {z1 z2 z3 v1 v2 v3 b1 b2 b3 B : Nat} {ps qs us us2 : List Nat} (h : BJ w a z1 z2 z3 v1 v2 v3 b1 b2 b3 B ps qs us W) (hb : Below B W W2) (hs : BS W2 B b3 us2) (k : Keep W W2) : BJ w a z1 z2 z3 v1 v2 v3 b1 b2 b3 B ps qs us2 W2 := by
  obtain ⟨i, k1, k2, k3, p1, p2, p3, q1, q2⟩ := h
  exact ⟨i.keep hb q1 k, k _ _ _ (by decide) (by decide) k1, k _ _ _ (by decide) (by decide) k2, k _ _ _ (by decide) (by decide) k3, p1.below hb (Nat.le_refl _), p2.below hb (Nat.le_refl _), hs, q1, Nat.le_trans q2 hb.size⟩
theorem BJ.cells {w W : World} {a : Value} {z1 z2 z3 v1 v2 v3 b1 b2 b3 B : Nat} {ps qs us : List Nat} (h : BJ w a z1 z2 z3 v1 v2 v3 b1 b2 b3 B ps qs us W) :
    W.cell? ⟨v1, 0, none⟩ = some (.pointer (some ⟨b1, 0, none⟩)) ∧ W.cell? ⟨v2, 0, none⟩ = some (.pointer (some ⟨b2, 0, none⟩)) ∧ W.cell? ⟨v3, 0, none⟩ = some (.pointer (some ⟨b3, 0, none⟩)) := by
  obtain ⟨i, k1, k2, k3, _⟩ := h
  exact ⟨k1.cell 0, k2.cell 0, k3.cell 0⟩
theorem BV.mono {w : World} {U U' b : Nat} {ws : List Nat} (h : BV w U b ws) (hU : U ≤ U') : BV w U' b ws := by
  obtain ⟨h1, h2, A, h3, h4⟩ := h
  refine ⟨by omega, h2, A, h3, fun h0 => ?_⟩
  obtain ⟨d, e, hd, h5⟩ := h4 h0
  exact ⟨d, e, by omega, h5⟩
theorem BJ.start {w w0 w1 w2 w3 : World} {a : Value} {z1 z2 z3 b1 b2 b3 B1 : Nat} {ps qs us : List Nat} (hi2 : BI w a z1 z2 z3 w2) (hi : BI w a z1 z2 z3 w3) (hs1 : BS w1 w0.heap.size b1 ps) (hb2 : Below w1.heap.size w1 w2) (hs2 : BS w2 w1.heap.size b2 qs) (hb3 : Below w2.heap.size w2 w3)
    (hs3 : BS w3 w2.heap.size b3 us) (hB : B1 = w2.heap.size) : BJ w a z1 z2 z3 w3.heap.size (w3.heap.size + 1) (w3.heap.size + 1 + 1) b1 b2 b3 B1 ps qs us (((w3.alloc (P85 b1)).alloc (P85 b2)).alloc (P85 b3)) ∧ b1 ≠ b2 := by
  subst hB
  have q1 := Blk.new w3 85 #[.pointer (some ⟨b1, 0, none⟩)]
  have q2 := Blk.new (w3.alloc (P85 b1)) 85 #[.pointer (some ⟨b2, 0, none⟩)]
  have q3 := Blk.new ((w3.alloc (P85 b1)).alloc (P85 b2)) 85 #[.pointer (some ⟨b3, 0, none⟩)]
  have k1 : Below w3.heap.size w3 (((w3.alloc (P85 b1)).alloc (P85 b2)).alloc (P85 b3)) := below_al (below_al (below_al (Below.refl _ _) (Nat.le_refl _)) (Nat.le_refl _)) (Nat.le_refl _)
  have n1 := hs1.view.1
  have n2 := hs2.1
  refine ⟨⟨hi.step k1, (q1.alloc _).alloc _, Blk.alloc (by simpa using q2) _, by simpa using q3, ?_, ?_, hs3.below k1, hi2.1.size, Nat.le_trans hb3.size k1.size⟩, by omega⟩
  · exact (((hs1.view.below hb2 (Nat.le_refl _)).mono hb2.size).below hb3 (Nat.le_refl _)).below k1 hb3.size
  · exact (hs2.view.below hb3 (Nat.le_refl _)).below k1 hb3.size
theorem NatsAt.mono {w : World} {U U' : Nat} {A : Option Addr} {l : List Nat} (h : NatsAt w U A l) (hU : U ≤ U') : NatsAt w U' A l := fun h0 => by
  obtain ⟨a, e, ha, hc⟩ := h h0
  exact ⟨a, e, by omega, hc⟩
theorem BJ.bv1 {w W : World} {a : Value} {z1 z2 z3 v1 v2 v3 b1 b2 b3 B : Nat} {ps qs us : List Nat} (h : BJ w a z1 z2 z3 v1 v2 v3 b1 b2 b3 B ps qs us W) : BV W W.heap.size b1 ps := h.2.2.2.2.1.mono h.2.2.2.2.2.2.2.2
theorem BJ.bv2 {w W : World} {a : Value} {z1 z2 z3 v1 v2 v3 b1 b2 b3 B : Nat} {ps qs us : List Nat} (h : BJ w a z1 z2 z3 v1 v2 v3 b1 b2 b3 B ps qs us W) : BV W W.heap.size b2 qs := h.2.2.2.2.2.1.mono h.2.2.2.2.2.2.2.2
theorem BJ.bv3 {w W : World} {a : Value} {z1 z2 z3 v1 v2 v3 b1 b2 b3 B : Nat} {ps qs us : List Nat} (h : BJ w a z1 z2 z3 v1 v2 v3 b1 b2 b3 B ps qs us W) : BV W W.heap.size b3 us := h.2.2.2.2.2.2.1.view
theorem tell_j {w W : World} {A : Option Addr} {c z1 z2 z3 U : Nat} {l : List Nat} (b : Nat) (ws : List Nat) (h : BI w (.slice A l.length c) z1 z2 z3 W) (hl : NatsAt w U A l) (hU : U ≤ w.heap.size) (hT : Tabs w) (hll : l.length ≤ 1000) (hlb : ∀ x ∈ l, x ≤ 1000) (hbv : BV W W.heap.size b ws) (hn : ws.length ≤ 16) :
    Calls Tryd.prog 41 #[bv b, .pointer (some ⟨w.heap.size, 0, none⟩)] W (ToldB ws l W) :=
  tell_any W W.heap.size b w.heap.size A c ws l hbv ((hl.below h.1 hU).mono (Nat.le_trans hU h.1.size)) h.2.1.lt (h.2.1.cell 0) (Nat.le_refl _) hn (hT.below h.1) hll hlb
theorem own_slice {w : World} {base : Nat} {e : TypeId} {size n : Nat} {v : Value} {xs : List Value} (h : w.ownsRow base e size v n xs) : ∃ A c, v = .slice A n c := by
  rcases own_form h with ⟨rfl, a, c, rfl⟩ | ⟨g, c, rfl, _⟩
  · exact ⟨a, c, rfl⟩
  · exact ⟨_, c, rfl⟩
theorem BJ.ne {w W : World} {a : Value} {z1 z2 z3 v1 v2 v3 b1 b2 b3 B : Nat} {ps qs us : List Nat} (h : BJ w a z1 z2 z3 v1 v2 v3 b1 b2 b3 B ps qs us W) :
    (¬ v1 = z1 ∧ ¬ v1 = z2 ∧ ¬ v1 = z3) ∧ (¬ v2 = z1 ∧ ¬ v2 = z2 ∧ ¬ v2 = z3) ∧ (¬ v3 = z1 ∧ ¬ v3 = z2 ∧ ¬ v3 = z3) := by
  obtain ⟨⟨_, _, i1, i2, i3⟩, k1, k2, k3, _⟩ := h
  exact ⟨⟨Blk.ne_ k1 i1 (by decide), Blk.ne_ k1 i2 (by decide), Blk.ne_ k1 i3 (by decide)⟩, ⟨Blk.ne_ k2 i1 (by decide), Blk.ne_ k2 i2 (by decide), Blk.ne_ k2 i3 (by decide)⟩, ⟨Blk.ne_ k3 i1 (by decide), Blk.ne_ k3 i2 (by decide), Blk.ne_ k3 i3 (by decide)⟩⟩
theorem results_c3t2 {P : Program} {fn : Func} {p1 p2 p3 u1 u2 : Tmp} {ty : TypeId} (h : fn.results = #[.cell p1 ty, .cell p2 ty, .cell p3 ty, .tmp u1, .tmp u2]) (tmps : Array Value) (w : World) (g1 g2 g3 : Nat) (t : TypeId) (cs1 cs2 cs3 : Array Value) (d : TypeDesc)
    (hp1 : tmps.getD p1 undef = .pointer (some ⟨g1, 0, none⟩)) (hp2 : tmps.getD p2 undef = .pointer (some ⟨g2, 0, none⟩)) (hp3 : tmps.getD p3 undef = .pointer (some ⟨g3, 0, none⟩))
    (hg1 : Blk w g1 t cs1) (hg2 : Blk w g2 t cs2) (hg3 : Blk w g3 t cs3)
    (hu : P.underlying ty = some d) (hd : (match d with | .struct _ | .array _ _ => true | _ => false) = true) (hi1 : (P.info? ty).map (·.size) = some cs1.size) (hi2 : (P.info? ty).map (·.size) = some cs2.size) (hi3 : (P.info? ty).map (·.size) = some cs3.size) :
    (results fn tmps).run P w = .ok (.tuple #[.agg cs1, .agg cs2, .agg cs3, tmps.getD u1 undef, tmps.getD u2 undef]) w := by
  have hp1' : tmps[p1]?.getD undef = .pointer (some ⟨g1, 0, none⟩) := by simpa using hp1
  have hp2' : tmps[p2]?.getD undef = .pointer (some ⟨g2, 0, none⟩) := by simpa using hp2
  have hp3' : tmps[p3]?.getD undef = .pointer (some ⟨g3, 0, none⟩) := by simpa using hp3
  simp [results, h, hp1', hp2', hp3', asAddr, run_loadVar_row w g1 t ty cs1 (0, 0) d hg1 hu hd hi1, run_loadVar_row w g2 t ty cs2 (0, 0) d hg2 hu hd hi2, run_loadVar_row w g3 t ty cs3 (0, 0) d hg3 hu hd hi3]
/-- A variable of four cells is written. -/
def set4 (W : World) (g : Nat) (x0 x1 x2 x3 : Value) : World := (((W.setCell ⟨g, 0, none⟩ x0).setCell ⟨g, 1, none⟩ x1).setCell ⟨g, 2, none⟩ x2).setCell ⟨g, 3, none⟩ x3
theorem blk_set4 {W : World} {g g' : Nat} {t : TypeId} {cs : Array Value} (h : Blk W g t cs) (hne : g ≠ g') (x0 x1 x2 x3 : Value) : Blk (set4 W g' x0 x1 x2 x3) g t cs :=
  (((h.far (p := ⟨g', 0, none⟩) hne x0).far (p := ⟨g', 1, none⟩) hne x1).far (p := ⟨g', 2, none⟩) hne x2).far (p := ⟨g', 3, none⟩) hne x3
theorem own_set4 {W : World} {base : Nat} {size n g : Nat} {v : Value} {xs : List Value} {cs : Array Value} (h : W.ownsRow base 4 size v n xs) (hg : Blk W g 43 cs) (x0 x1 x2 x3 : Value) : (set4 W g x0 x1 x2 x3).ownsRow base 4 size v n xs := own_far4 h hg (by decide) x0 x1 x2 x3
/-- The last step. -/
theorem bits_end {w w8 w9 w10 : World} {A : Option Addr} {c z1 z2 z3 : Nat} {ps qs us l : List Nat} {h1 h2 h3 : Value} {B7 : Nat} (hi : BI w (.slice A l.length c) z1 z2 z3 w10) (hz : w.heap.size < z1 ∧ z1 < z2 ∧ z2 < z3) (hB7 : w.heap.size ≤ B7)
    (o1 : w8.ownsRow B7 4 1 h1 l.length (hasRow ps l)) (k8 : Below w8.heap.size w8 w9) (o2 : w9.ownsRow w8.heap.size 4 1 h2 l.length (hasRow qs l)) (s8 : w.heap.size ≤ w8.heap.size) (k9 : Below w9.heap.size w9 w10) (o3 : w10.ownsRow w9.heap.size 4 1 h3 l.length (hasRow us l)) (s9 : w.heap.size ≤ w9.heap.size)
    (x11 x12 x13 x21 x22 x23 x31 x32 x33 : Value) (W : World) (hW : W = set4 (set4 (set4 w10 z1 h1 x11 x12 x13) z2 h2 x21 x22 x23) z3 h3 x31 x32 x33) :
    Blk W z1 43 #[h1, x11, x12, x13] ∧ Blk W z2 43 #[h2, x21, x22, x23] ∧ Blk W z3 43 #[h3, x31, x32, x33] ∧ Below w.heap.size w W
      ∧ W.ownsRow w.heap.size 4 1 h1 l.length (hasRow ps l) ∧ W.ownsRow w.heap.size 4 1 h2 l.length (hasRow qs l) ∧ W.ownsRow w.heap.size 4 1 h3 l.length (hasRow us l) := by
  subst hW
  obtain ⟨hb, _, i1, i2, i3⟩ := hi
  obtain ⟨e1, e2, e3⟩ := hz
  have j1 : Blk (set4 w10 z1 h1 x11 x12 x13) z1 43 #[h1, x11, x12, x13] := blk4 i1 _ _ _
  have j2 : Blk (set4 w10 z1 h1 x11 x12 x13) z2 43 Z43c := blk_set4 i2 (by omega) _ _ _ _
  have j3 : Blk (set4 w10 z1 h1 x11 x12 x13) z3 43 Z43c := blk_set4 i3 (by omega) _ _ _ _
  have k2 : Blk (set4 (set4 w10 z1 h1 x11 x12 x13) z2 h2 x21 x22 x23) z2 43 #[h2, x21, x22, x23] := blk4 j2 _ _ _
  have k3 : Blk (set4 (set4 w10 z1 h1 x11 x12 x13) z2 h2 x21 x22 x23) z3 43 Z43c := blk_set4 j3 (by omega) _ _ _ _
  have hown : ∀ {v : Value} {xs : List Value} {n : Nat}, w10.ownsRow w.heap.size 4 1 v n xs → (set4 (set4 (set4 w10 z1 h1 x11 x12 x13) z2 h2 x21 x22 x23) z3 h3 x31 x32 x33).ownsRow w.heap.size 4 1 v n xs :=
    fun h => own_set4 (own_set4 (own_set4 h i1 _ _ _ _) j2 _ _ _ _) k3 _ _ _ _
  refine ⟨blk_set4 (blk_set4 j1 (by omega) _ _ _ _) (by omega) _ _ _ _, blk_set4 k2 (by omega) _ _ _ _, blk4 k3 _ _ _, ?_, hown (own_below (own_below (o1.mono hB7) k8) k9), hown (own_below (o2.mono s8) k9), hown (o3.mono s9)⟩
  exact below4 (below4 (below4 hb (by omega) _ _ _ _) (by omega) _ _ _ _) (by omega) _ _ _ _
theorem setW_nil : setW [] [] = [] := rfl

set_option maxRecDepth 100000 in
set_option maxHeartbeats 1000000 in
theorem bits_any (w : World) (U : Nat) (A1 A2 A3 A4 A5 : Option Addr) (c1 c2 c3 c4 c5 : Nat) (l1 l2 l3 l4 l5 : List Nat) (h1 : NatsAt w U A1 l1) (h2 : NatsAt w U A2 l2) (h3 : NatsAt w U A3 l3) (h4 : NatsAt w U A4 l4) (h5 : NatsAt w U A5 l5) (hU : U ≤ w.heap.size)
    (n1 : ∀ x ∈ l1, x ≤ 200) (n2 : ∀ x ∈ l2, x ≤ 200) (n3 : ∀ x ∈ l3, x ≤ 200) (n4 : ∀ x ∈ l4, x ≤ 200) (n5 : ∀ x ∈ l5, x ≤ 1000)
    (m1 : l1.length ≤ 1000) (m2 : l2.length ≤ 1000) (m3 : l3.length ≤ 1000) (m4 : l4.length ≤ 1000) (m5 : l5.length ≤ 1000) (hT : Tabs w) :
    Calls Tryd.prog 16 #[.slice A1 l1.length c1, .slice A2 l2.length c2, .slice A3 l3.length c3, .slice A4 l4.length c4, .slice A5 l5.length c5] w (BitsPost w (setW l1 l2) (setW l3 l4) l5) := by
  have H1 := Lib.hid h1
  have H2 := Lib.hid h2
  have H3 := Lib.hid h3
  have H4 := Lib.hid h4
  have H5 := Lib.hid h5
  have N1 := Lib.hid n1
  have N2 := Lib.hid n2
  have N3 := Lib.hid n3
  have N4 := Lib.hid n4
  have N5 := Lib.hid n5
  have M1 := Lib.hid m1
  have M2 := Lib.hid m2
  have M3 := Lib.hid m3
  have M4 := Lib.hid m4
  have M5 := Lib.hid m5
  have HT := Lib.hid hT
  clear h1 h2 h3 h4 h5 n1 n2 n3 n4 n5 m1 m2 m3 m4 m5 hT
  go_enter Tryd.func16, Tryd.ntmps16
  go_upto_region 3 with fail
  have hi0 := BI.start w (.slice A5 l5.length c5)
  generalize hw0 : ((((w.alloc (.cells #[.slice A5 l5.length c5] 29)).alloc Z43).alloc Z43).alloc Z43) = w0 at hi0 ⊢
  have z12 : w.heap.size + 1 < w.heap.size + 1 + 1 := by omega
  have z23 : w.heap.size + 1 + 1 < w.heap.size + 1 + 1 + 1 := by omega
  have z01 : w.heap.size < w.heap.size + 1 := by omega
  generalize w.heap.size + 1 + 1 + 1 = z3 at hi0 z23 ⊢
  generalize w.heap.size + 1 + 1 = z2 at hi0 z12 z23 ⊢
  generalize w.heap.size + 1 = z1 at hi0 z01 z12 ⊢
  have HI0 := Lib.hid hi0
  have Hw0 := Lib.hid hw0
  clear hi0 hw0
  go_upto_region 4 with (first
    | (go_at_call 37; go_fit (make_any _ U A1 A2 c1 c2 l1 l2 (H1.out.below HI0.out.1 hU) (H2.out.below HI0.out.1 hU) (Nat.le_trans hU HI0.out.1.size) (fun x hx => Nat.le_trans (N1.out x hx) (by omega)) (fun x hx => Nat.le_trans (N2.out x hx) (by omega)) (Nat.le_trans M1.out (by omega)) (Nat.le_trans M2.out (by omega))); rintro e w1 ⟨b1, rfl, hb, hs⟩; have HB1 := Lib.hid hb; have HS1 := Lib.hid hs; have HI1 := Lib.hid (HI0.out.step hb); clear hb hs)
    | (go_at_call 37; go_fit (make_any _ U A3 A4 c3 c4 l3 l4 (H3.out.below HI1.out.1 hU) (H4.out.below HI1.out.1 hU) (Nat.le_trans hU HI1.out.1.size) (fun x hx => Nat.le_trans (N3.out x hx) (by omega)) (fun x hx => Nat.le_trans (N4.out x hx) (by omega)) (Nat.le_trans M3.out (by omega)) (Nat.le_trans M4.out (by omega))); rintro e w2 ⟨b2, rfl, hb, hs⟩; have HB2 := Lib.hid hb; have HS2 := Lib.hid hs; have HI2 := Lib.hid (HI1.out.step hb); clear hb hs)
    | (go_at_call 37; go_fit (make_any _ 0 none none 0 0 [] [] (NatsAt.nil _ _) (NatsAt.nil _ _) (Nat.zero_le _) (fun x hx => by cases hx) (fun x hx => by cases hx) (by decide) (by decide)); rintro e w3 ⟨b3, rfl, hb, hs⟩; have HB3 := Lib.hid hb; have HS3 := Lib.hid hs; have HI3 := Lib.hid (HI2.out.step hb); clear hb hs))
  obtain ⟨B, hB⟩ : ∃ B, B = w2.heap.size := ⟨_, rfl⟩
  obtain ⟨hj0, hb12⟩ := BJ.start HI2.out HI3.out HS1.out HB2.out HS2.out HB3.out HS3.out hB
  rw [setW_nil] at hj0
  generalize (((w3.alloc (P85 b1)).alloc (P85 b2)).alloc (P85 b3)) = w4 at hj0 ⊢
  generalize w3.heap.size + 1 + 1 = v3 at hj0 ⊢
  generalize w3.heap.size + 1 = v2 at hj0 ⊢
  generalize w3.heap.size = v1 at hj0 ⊢
  have Lp := Lib.hid (len_set l1 l2 N1.out)
  have Lq := Lib.hid (len_set l3 l4 N3.out)
  obtain ⟨ps, hps⟩ : ∃ ps, setW l1 l2 = ps := ⟨_, rfl⟩
  obtain ⟨qs, hqs⟩ : ∃ qs, setW l3 l4 = qs := ⟨_, rfl⟩
  rw [hps] at hj0 Lp ⊢
  rw [hqs] at hj0 Lq ⊢
  have Lp2 := Lib.hid (len_or [] ps (by simp) Lp.out)
  obtain ⟨d1, d2, d3⟩ := hj0.cells
  have HJ0 := Lib.hid hj0
  have HBw := Lib.hid hB
  have Hps := Lib.hid hps
  have Hqs := Lib.hid hqs
  have Lu := Lib.hid (len_or (orB [] ps) qs Lp2.out Lq.out)
  have N5' := Lib.hid (fun (x : Nat) (hx : x ∈ l5) => N5.out x hx)
  clear hj0 hB hps hqs HI0 Hw0 HB1 HS1 HI1 HB2 HS2 HI2 HB3 HS3 HI3
  go_upto_region 7 with (first
    | (go_at_call 46; go_fit (zzor _ B b3 [] B b1 ps HJ0.out.2.2.2.2.2.2.1 HJ0.out.2.2.2.2.1 (Nat.le_refl _) HJ0.out.2.2.2.2.2.2.2.2 (by decide) (Nat.le_trans Lp.out (by omega))); rintro e w5 ⟨rfl, hb, hs, hk⟩; have HJ1 := Lib.hid (HJ0.out.or hb hs hk); obtain ⟨e1, e2, e3⟩ := HJ1.out.cells; clear hb hs hk)
    | (go_at_call 46; go_fit (zzor _ B b3 (orB [] ps) B b2 qs HJ1.out.2.2.2.2.2.2.1 HJ1.out.2.2.2.2.2.1 (Nat.le_refl _) HJ1.out.2.2.2.2.2.2.2.2 (Nat.le_trans Lp2.out (by omega)) (Nat.le_trans Lq.out (by omega))); rintro e w6 ⟨rfl, hb, hs, hk⟩; have HJ2 := Lib.hid (HJ1.out.or hb hs hk); obtain ⟨g1, g2, g3⟩ := HJ2.out.cells; clear hb hs hk)
    | (go_at_call 47; go_fit (zzequal _ B b1 b2 ps qs HJ2.out.2.2.2.2.1 HJ2.out.2.2.2.2.2.1 HJ2.out.2.2.2.2.2.2.2.2 (Nat.le_trans Lp.out (by omega)) (Nat.le_trans Lq.out (by omega)) hb12); rintro e w7 ⟨eq, rfl, hb⟩; have HJ3 := Lib.hid (HJ2.out.step hb); clear hb))
  obtain ⟨⟨n11, n12, n13⟩, ⟨n21, n22, n23⟩, ⟨n31, n32, n33⟩⟩ := HJ3.out.ne
  have n11' : ¬ z1 = v1 := fun e => n11 e.symm
  have n12' : ¬ z2 = v1 := fun e => n12 e.symm
  have n13' : ¬ z3 = v1 := fun e => n13 e.symm
  have n21' : ¬ z1 = v2 := fun e => n21 e.symm
  have n22' : ¬ z2 = v2 := fun e => n22 e.symm
  have n23' : ¬ z3 = v2 := fun e => n23 e.symm
  have n31' : ¬ z1 = v3 := fun e => n31 e.symm
  have n32' : ¬ z2 = v3 := fun e => n32 e.symm
  have n33' : ¬ z3 = v3 := fun e => n33 e.symm
  have y12 : ¬ z1 = z2 := by omega
  have y13 : ¬ z1 = z3 := by omega
  have y23 : ¬ z2 = z3 := by omega
  have y21 : ¬ z2 = z1 := by omega
  have y31 : ¬ z3 = z1 := by omega
  have y32 : ¬ z3 = z2 := by omega
  obtain ⟨x1, x2, x3⟩ := HJ3.out.cells
  go_region_held3 (fun W => W.cell? ⟨v1, 0, none⟩ = some (.pointer (some ⟨b1, 0, none⟩)) ∧ W.cell? ⟨v2, 0, none⟩ = some (.pointer (some ⟨b2, 0, none⟩)) ∧ W.cell? ⟨v3, 0, none⟩ = some (.pointer (some ⟨b3, 0, none⟩)))
    (first | go_keep | (simp [*]))
    (first
      | (go_at_call 41; go_fit (tell_j b1 ps (by first | exact HJ3.out.1 | exact HJ3.out.drew.1) H5.out hU HT.out M5.out N5.out (by first | exact HJ3.out.bv1 | exact HJ3.out.drew.bv1) Lp.out); rintro e w8 ⟨hv1, rfl, hb, hown⟩; obtain ⟨Aw8, cw8, rfl⟩ := own_slice hown; have HJ4 := Lib.hid (show BJ _ _ _ _ _ _ _ _ _ _ _ _ _ _ _ w8 from (by first | exact HJ3.out.step hb | exact HJ3.out.drew.step hb)); obtain ⟨q11, q12, q13⟩ := HJ4.out.cells; have O1 := Lib.hid hown; have HBb1 := Lib.hid hb; have HIw8 := HJ4.out.1; obtain ⟨zA0, zA1, zA2, zA3, zB0, zB1, zB2, zB3⟩ := cells4 HIw8.2.2.1; obtain ⟨zC0, zC1, zC2, zC3, zD0, zD1, zD2, zD3⟩ := cells4 HIw8.2.2.2.1; obtain ⟨zE0, zE1, zE2, zE3, zF0, zF1, zF2, zF3⟩ := cells4 HIw8.2.2.2.2; clear hb hown HIw8)
      | (go_at_call 41; go_fit (tell_j b2 qs (by first | exact HJ4.out.1 | exact HJ4.out.drew.1) H5.out hU HT.out M5.out N5.out (by first | exact HJ4.out.bv2 | exact HJ4.out.drew.bv2) Lq.out); rintro e w9 ⟨hv2, rfl, hb, hown⟩; obtain ⟨Aw9, cw9, rfl⟩ := own_slice hown; have HJ5 := Lib.hid (show BJ _ _ _ _ _ _ _ _ _ _ _ _ _ _ _ w9 from (by first | exact HJ4.out.step hb | exact HJ4.out.drew.step hb)); obtain ⟨q21, q22, q23⟩ := HJ5.out.cells; have O2 := Lib.hid hown; have HBb2 := Lib.hid hb; have HIw9 := HJ5.out.1; obtain ⟨zA0, zA1, zA2, zA3, zB0, zB1, zB2, zB3⟩ := cells4 HIw9.2.2.1; obtain ⟨zC0, zC1, zC2, zC3, zD0, zD1, zD2, zD3⟩ := cells4 HIw9.2.2.2.1; obtain ⟨zE0, zE1, zE2, zE3, zF0, zF1, zF2, zF3⟩ := cells4 HIw9.2.2.2.2; clear hb hown HIw9)
      | (go_at_call 41; go_fit (tell_j b3 (orB (orB [] ps) qs) (by first | exact HJ5.out.1 | exact HJ5.out.drew.1) H5.out hU HT.out M5.out N5.out (by first | exact HJ5.out.bv3 | exact HJ5.out.drew.bv3) Lu.out); rintro e w10 ⟨hv3, rfl, hb, hown⟩; obtain ⟨Aw10, cw10, rfl⟩ := own_slice hown; have HJ6 := Lib.hid (show BJ _ _ _ _ _ _ _ _ _ _ _ _ _ _ _ w10 from (by first | exact HJ5.out.step hb | exact HJ5.out.drew.step hb)); obtain ⟨q31, q32, q33⟩ := HJ6.out.cells; have O3 := Lib.hid hown; have HBb3 := Lib.hid hb; have HIw10 := HJ6.out.1; obtain ⟨zA0, zA1, zA2, zA3, zB0, zB1, zB2, zB3⟩ := cells4 HIw10.2.2.1; obtain ⟨zC0, zC1, zC2, zC3, zD0, zD1, zD2, zD3⟩ := cells4 HIw10.2.2.2.1; obtain ⟨zE0, zE1, zE2, zE3, zF0, zF1, zF2, zF3⟩ := cells4 HIw10.2.2.2.2; clear hb hown HIw10))
  all_goals go_wp2_with fail
  all_goals (try simp only [Exit.inBlock, Exit.then])
  obtain ⟨r1, r2, r3, rb, ro1, ro2, ro3⟩ := bits_end HJ6.out.1 ⟨z01, z12, z23⟩ HJ3.out.1.1.size O1.out HBb2.out O2.out HJ4.out.1.1.size HBb3.out O3.out HJ5.out.1.1.size _ _ _ _ _ _ _ _ _ _ rfl
  refine bodyPost_ret (results_c3t2 rfl _ _ z1 z2 z3 43 _ _ _ _ rfl rfl rfl r1 r2 r3 Tryd.underlying43 rfl info43 info43 info43) rfl ?_
  rw [Hps.out, Hqs.out]
  exact ⟨_, _, _, eq, rfl, rb, ro1, ro2, ro3⟩
end Go.Proofs.YtiffjbpejlnndaaDoor
