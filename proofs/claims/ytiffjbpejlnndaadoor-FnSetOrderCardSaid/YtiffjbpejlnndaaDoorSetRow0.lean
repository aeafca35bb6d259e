/-
  What the rows of the interval sets' laws want: a slice of steps as it comes in (the first lemma follows the guide's page on structs). Conditions: none of its own.
-/
import Derived.Test.YtiffjbpejlnndaaDoorOrRow0
import Derived.Test.YtiffjbpejlnndaaDoorNum4
import Derived.Deep.Slices
import Derived.Deep.Fields
import Derived.ChangeSame
namespace Go.Proofs.YtiffjbpejlnndaaDoor
open Go.ChangeShapes Go.WideShapes Go.ChangeAt Go.RowKit Go.Shelf Go.Deep

section
variable {H : Type} {enc : TypeId × Value → H} {P : Program} {w : World} {base : Nat} {spare : Nat → Bool} {held : Bool}
theorem open_slice_fields {t e : TypeId} {fs : Array Field} {fuel : Nat} {cs : List Value} {x : DataW H × List MemPlace} (ht : P.underlying t = some (.slice e)) (he : P.underlying e = some (.struct fs))
    (hone : oneCellFields P fs = true) (hC : P.cellsOf e = fs.size) (h : DataW.trod enc P w base spare held fuel t cs = some x) :
    (cs = [.slice none 0 0] ∧ x = (.nil, [])) ∨
    ∃ (a : Addr) (len cap m : Nat) (D : Nat → DataW H) (Pl : Nat → List MemPlace), cs = [.slice (some a) len cap] ∧ base ≤ a.block ∧ len ≤ cap ∧ cap ≤ maxLen ∧ m = (if spare a.block then cap else len) ∧
      x = (.slice ((List.range len).map D) ((List.range (m - len)).map fun j => D (len + j)), MemPlace.row a (m * fs.size) ++ (List.range m).flatMap Pl) ∧
      ∀ i, i < m → ∃ (ys : List (DataW H × List MemPlace)) (n : Nat), D i = .agg (ys.map (·.1)) ∧ Pl i = ys.flatMap (·.2) ∧ ys.length = fs.size ∧
        ∀ (j : Nat) (f : Field), fs[j]? = some f → ∃ (v : Value) (y : DataW H × List MemPlace), w.cell? (a.add (i * fs.size + j)) = some v ∧ ys[j]? = some y ∧ DataW.trod enc P w base spare held n f.type [v] = some y := by
  rcases open_slice ht h with h0 | ⟨a, len, cap, m, n, D, Pl, hcs, hb, hl, hm, hmm, hx, hi⟩
  · exact .inl h0
  · refine .inr ⟨a, len, cap, m, D, Pl, hcs, hb, hl, hm, hmm, by rw [hC] at hx; exact hx, fun i him => ?_⟩
    obtain ⟨cs', hc, ht'⟩ := hi i him
    rw [hC] at hc
    obtain ⟨ys, n', hn', hy, hlen, hyl, hf⟩ := DataW.trod_struct he ht'
    obtain ⟨_, hcl, hat⟩ := World.cells?_some hc
    simp only [Prod.mk.injEq] at hy
    refine ⟨ys, n', hy.1, hy.2, hyl, fun j f hj => ?_⟩
    obtain ⟨ho, hk⟩ := hone_of hone j f hj
    have hjl : j < fs.size := (Array.getElem?_eq_some_iff.1 hj).1
    have hcell := hat j hjl
    have hv : cs'[j]? = some (cs'[j]'(by omega)) := List.getElem?_eq_getElem (by omega)
    have h1 := hf j f hj
    rw [ho, hk] at h1
    have hone' : (cs'.drop j).take 1 = [cs'[j]'(by omega)] := by
      rw [List.drop_eq_getElem_cons (by omega)]
      rfl
    rw [hone'] at h1
    have hys : ys[j]? = some (ys[j]'(by omega)) := List.getElem?_eq_getElem (by omega)
    refine ⟨_, _, ?_, hys, h1.trans hys⟩
    rw [← Go.Deep.add_add, hcell, hv]
end

def cellInt (v : Option Value) : Int := match v with
  | some (.int _ n) => n
  | _ => 0
/-- The step that stands at a place. -/
def stepOf (W : World) (a : Addr) (i : Nat) : Stp := ⟨(cellInt (W.cell? (a.add (i * 4)))).toNat, cellInt (W.cell? (a.add (i * 4 + 1))), cellInt (W.cell? (a.add (i * 4 + 2))), cellInt (W.cell? (a.add (i * 4 + 3)))⟩
set_option maxRecDepth 100000 in
/-- A slice of steps that comes in. -/
theorem steps_in {H : Type} {enc : TypeId × Value → H} {W : World} {b : Nat} {v : Value} {d : DataW H} {p : List MemPlace} (hval : Value.okWide Tryd.prog W .any b 50 v) (h : DataW.Trod enc Tryd.prog W 0 (fun _ => true) true 50 v d p) :
    ∃ (A : Option Addr) (c : Nat) (l : List Stp), v = .slice A l.length c ∧ StepsAt W W.heap.size A l := by
  obtain ⟨a0, len, cap, rfl⟩ := Go.WideShapes.okWide_slice Tryd.underlying50 hval
  obtain ⟨fuel, hf⟩ := h
  rcases open_slice_fields Tryd.underlying50 Tryd.underlying70 (by kernel_rfl) (by kernel_rfl) hf with ⟨hcs, hx⟩ | ⟨a, len', cap', m, D, Pl, hcs, _, hle, hmax, hm, hx, hi⟩
  · simp [Value.cells] at hcs
    obtain ⟨rfl, rfl, rfl⟩ := hcs
    exact ⟨none, 0, [], rfl, fun h0 => absurd h0 (by decide)⟩
  · simp [Value.cells] at hcs
    obtain ⟨rfl, rfl, rfl⟩ := hcs
    have hml : len ≤ m := by
      rw [hm]
      simpa using hle
    have hcell : ∀ i, i < len → ∃ o s x y : Int, W.cell? (a.add (i * 4)) = some (.int .u8 o) ∧ 0 ≤ o ∧ W.cell? (a.add (i * 4 + 1)) = some (.int .i64 s) ∧ W.cell? (a.add (i * 4 + 2)) = some (.int .i64 x) ∧ W.cell? (a.add (i * 4 + 3)) = some (.int .i64 y) := by
      intro i hil
      obtain ⟨ys, n, _, _, _, hfs⟩ := hi i (by omega)
      obtain ⟨v0, y0, c0, _, t0⟩ := hfs 0 _ rfl
      obtain ⟨v1, y1, c1, _, t1⟩ := hfs 1 _ rfl
      obtain ⟨v2, y2, c2, _, t2⟩ := hfs 2 _ rfl
      obtain ⟨v3, y3, c3, _, t3⟩ := hfs 3 _ rfl
      obtain ⟨o, e0, _, w0⟩ := DataW.trod_int (t := 5) Tryd.underlying5 t0
      obtain ⟨s, e1, _, _⟩ := DataW.trod_int (t := 3) Tryd.underlying3 t1
      obtain ⟨x, e2, _, _⟩ := DataW.trod_int (t := 3) Tryd.underlying3 t2
      obtain ⟨y, e3, _, _⟩ := DataW.trod_int (t := 3) Tryd.underlying3 t3
      injection e0 with e0
      injection e1 with e1
      injection e2 with e2
      injection e3 with e3
      rw [e0] at c0
      rw [e1] at c1
      rw [e2] at c2
      rw [e3] at c3
      have h0 : 0 ≤ o := by
        have := w0
        simp only [Lit.wf, Bool.and_eq_true, decide_eq_true_eq] at this
        exact Int.le_trans (by decide) this.1
      exact ⟨o, s, x, y, c0, h0, c1, c2, c3⟩
    refine ⟨some a, cap, (List.range len).map (stepOf W a), by simp, fun h0 => ⟨a, rfl, ?_, fun k s hs => ?_⟩⟩
    · have h1 : 0 < len := by simpa using h0
      obtain ⟨o, s, x, y, c0, _⟩ := hcell 0 h1
      have := World.block_lt_of_cell? W _ c0
      rw [addr_add_block] at this
      exact this
    · rw [List.getElem?_map, Option.map_eq_some_iff] at hs
      obtain ⟨j, hj, rfl⟩ := hs
      obtain ⟨hjl, hj2⟩ := List.getElem?_eq_some_iff.1 hj
      have hkj : k = j := by simpa using hj2
      subst hkj
      obtain ⟨o, s, x, y, c0, h0, c1, c2, c3⟩ := hcell k (by simpa using hjl)
      unfold stepOf
      rw [c0, c1, c2, c3]
      refine ⟨?_, rfl, rfl, rfl⟩
      show some (Value.int .u8 o) = some (.int .u8 ((o.toNat : Nat) : Int))
      rw [Int.toNat_of_nonneg h0]
end Go.Proofs.YtiffjbpejlnndaaDoor
