/-
  The steps as they lie in memory; the variable of the four sets is read and written whole. Conditions: none.
-/
import Derived.Test.YtiffjbpejlnndaaDoorNumP
import Derived.Deep.WholeRow
namespace Go.Proofs.YtiffjbpejlnndaaDoor
open Go.RowKit

/-- The steps that come in. -/
def StepsAt (w : World) (U : Nat) (A : Option Addr) (l : List Stp) : Prop :=
  0 < l.length → ∃ a, A = some a ∧ a.block < U ∧ ∀ k s, l[k]? = some s → w.cell? (a.add (k * 4)) = some (.int .u8 (s.op : Int)) ∧ w.cell? (a.add (k * 4 + 1)) = some (.int .i64 s.set) ∧ w.cell? (a.add (k * 4 + 2)) = some (.int .i64 s.a) ∧ w.cell? (a.add (k * 4 + 3)) = some (.int .i64 s.b)
theorem StepsAt.keep {w w' : World} {U : Nat} {A : Option Addr} {l : List Stp} (h : StepsAt w U A l) (hk : ∀ p : Addr, p.block < U → w'.cell? p = w.cell? p) : StepsAt w' U A l := fun h0 => by
  obtain ⟨a, e, ha, hc⟩ := h h0
  refine ⟨a, e, ha, fun k s hs => ?_⟩
  obtain ⟨c1, c2, c3, c4⟩ := hc k s hs
  exact ⟨(hk _ (by rw [addr_add_block]; exact ha)).trans c1, (hk _ (by rw [addr_add_block]; exact ha)).trans c2, (hk _ (by rw [addr_add_block]; exact ha)).trans c3, (hk _ (by rw [addr_add_block]; exact ha)).trans c4⟩
theorem StepsAt.below {w w' : World} {U B : Nat} {A : Option Addr} {l : List Stp} (h : StepsAt w U A l) (hb : Below B w w') (hU : U ≤ B) : StepsAt w' U A l := h.keep fun _ hp => hb.cell (Nat.lt_of_lt_of_le hp hU)
theorem StepsAt.mono {w : World} {U U' : Nat} {A : Option Addr} {l : List Stp} (h : StepsAt w U A l) (hU : U ≤ U') : StepsAt w U' A l := fun h0 => by
  obtain ⟨a, e, ha, hc⟩ := h h0
  exact ⟨a, e, by omega, hc⟩
/-- One step, as a load of four cells finds it. -/
theorem StepsAt.at_ {w : World} {U : Nat} {A : Option Addr} {l : List Stp} (h : StepsAt w U A l) {k : Nat} {s : Stp} (hk : l[k]? = some s) :
    ∃ a, A = some a ∧ a.block < U ∧ w.cell? (a.add (k * 4)) = some (.int .u8 (s.op : Int)) ∧ w.cell? ⟨(a.add (k * 4)).block, (a.add (k * 4)).off + 1, none⟩ = some (.int .i64 s.set) ∧ w.cell? ⟨(a.add (k * 4)).block, (a.add (k * 4)).off + 2, none⟩ = some (.int .i64 s.a) ∧ w.cell? ⟨(a.add (k * 4)).block, (a.add (k * 4)).off + 3, none⟩ = some (.int .i64 s.b) := by
  have hl : k < l.length := by
    rcases Nat.lt_or_ge k l.length with h2 | h2
    · exact h2
    · rw [List.getElem?_eq_none h2] at hk
      cases hk
  obtain ⟨a, e, ha, hc⟩ := h (by omega)
  obtain ⟨c1, c2, c3, c4⟩ := hc k s hk
  have e1 : ∀ (x : Addr) (j : Nat), 0 < j → (⟨x.block, x.off + j, none⟩ : Addr) = x.add j := fun x j hj => by
    unfold Addr.add
    rw [if_neg (by omega)]
  exact ⟨a, e, ha, c1, by rw [e1 _ 1 (by omega), add_of_add]; exact c2, by rw [e1 _ 2 (by omega), add_of_add]; exact c3, by rw [e1 _ 3 (by omega), add_of_add]; exact c4⟩
abbrev P70 (s : Stp) : Obj := .cells #[.int .u8 (s.op : Int), .int .i64 s.set, .int .i64 s.a, .int .i64 s.b] 70

theorem zero54 : (∀ w, (zeroValue 54).run Tryd.prog w = .ok (.agg (numF F0)) w) ∧ (Tryd.prog.info? 54).map (·.size) = some 564 := zero_of_info (by kernel_rfl)
theorem setRow_same {w : World} {g : Nat} {t : TypeId} {cs : Array Value} (h : Blk w g t cs) : w.setRow g cs = w := by
  have e : (w.setRow g cs).heap = w.heap := by
    apply Array.ext_getElem?
    intro i
    by_cases e : g = i
    · subst e
      exact (setRow_heap w g cs cs t (0, 0) h).trans h.symm
    · unfold World.setRow
      rw [Array.getElem?_modify, if_neg e]
  show ({ w with heap := (w.setRow g cs).heap } : World) = w
  rw [e]
/-- The variable of the four sets is read whole. -/
theorem wpList_load54 {ops : Array Oper} {rest : List Oper} {o : Oper} {a : Act} {w : World} {Q : Exit → Act → World → Prop} (hgd : o.guard = none) (x : Operand) (ho : o.op = .load 54 x) (b : Nat) (M : Nat → Int → Bool)
    (hx : a.eval x = .pointer (some ⟨b, 0, none⟩)) (hb : Blk w b 54 (numCells M)) (h : wpList Tryd.prog ops Q rest (a.put o.dst (.agg (numCells M))) w) : wpList Tryd.prog ops Q (o :: rest) a w :=
  wpList_load_row hgd 54 x ho b hx 54 (numCells M) (0, 0) _ hb Tryd.underlying54 rfl (by rw [numCells_size]; exact zero54.2) h
/-- What it holds is written into it again. -/
theorem wpList_store54 {ops : Array Oper} {rest : List Oper} {o : Oper} {a : Act} {w : World} {Q : Exit → Act → World → Prop} (hgd : o.guard = none) (x y : Operand) (ho : o.op = .store 54 x y) (b : Nat) (M : Nat → Int → Bool)
    (hx : a.eval x = .pointer (some ⟨b, 0, none⟩)) (hy : a.eval y = .agg (numCells M)) (hb : Blk w b 54 (numCells M)) (h : wpList Tryd.prog ops Q rest (a.put o.dst undef) w) : wpList Tryd.prog ops Q (o :: rest) a w :=
  wpList_plain hgd fun _ hK => wp_store_row 54 x y ho b (numCells M) hx hy 54 (numCells M) hb (by rw [numCells_size]; exact zero54.2) rfl (numCells_one M) (by rw [setRow_same hb]; exact hK _ _ h)
theorem results_c1t1 {P : Program} {fn : Func} {p u : Tmp} {ty : TypeId} (h : fn.results = #[.cell p ty, .tmp u]) (tmps : Array Value) (w : World) (g : Nat) (t : TypeId) (cs : Array Value) (d : TypeDesc)
    (hp : tmps.getD p undef = .pointer (some ⟨g, 0, none⟩)) (hg : Blk w g t cs) (hu : P.underlying ty = some d) (hd : (match d with | .struct _ | .array _ _ => true | _ => false) = true) (hi : (P.info? ty).map (·.size) = some cs.size) :
    (results fn tmps).run P w = .ok (.tuple #[.agg cs, tmps.getD u undef]) w := by
  have hp' : tmps[p]?.getD undef = .pointer (some ⟨g, 0, none⟩) := by simpa using hp
  simp [results, h, hp', asAddr, run_loadVar_row w g t ty cs (0, 0) d hg hu hd hi]

theorem stepP_bad {F : Nat → List Rng} {s : Stp} (h : s.set < 0 ∨ 3 < s.set ∨ 2 < s.op) : stepP F s = none := by
  unfold stepP
  rw [if_neg (by omega)]
theorem stepP_at {F : Nat → List Rng} {op si : Nat} {a b : Int} (hs : si < 4) (ho : op ≤ 2) : stepP F ⟨op, (si : Int), a, b⟩ = (newL F ⟨op, (si : Int), a, b⟩).map (putF F si) := by
  unfold stepP
  rw [if_pos ⟨by show (0 : Int) ≤ (si : Int); omega, by show (si : Int) ≤ 3; omega, ho⟩]
  rfl
theorem stepP_one {F : Nat → List Rng} {si : Nat} {a b : Int} (hs : si < 4) : stepP F ⟨0, (si : Int), a, b⟩ = (addP (F si) a a).map (putF F si) := (stepP_at hs (by omega)).trans rfl
theorem stepP_range {F : Nat → List Rng} {si : Nat} {a b : Int} (hs : si < 4) : stepP F ⟨1, (si : Int), a, b⟩ = (addP (F si) a b).map (putF F si) := (stepP_at hs (by omega)).trans rfl
theorem stepP_two {F : Nat → List Rng} {si ai : Nat} {b : Int} (hs : si < 4) (ha : ai < 4) (hne : ai ≠ si) : stepP F ⟨2, (si : Int), (ai : Int), b⟩ = (addAll (F si) (F ai)).map (putF F si) := by
  rw [stepP_at hs (by omega)]
  unfold newL
  rw [if_neg (by show ¬ (2 : Nat) = 0; omega), if_neg (by show ¬ (2 : Nat) = 1; omega), if_pos ⟨by show (0 : Int) ≤ (ai : Int); omega, by show (ai : Int) ≤ 3; omega, by show (ai : Int) ≠ (si : Int); omega⟩]
  rfl
theorem stepP_two_bad {F : Nat → List Rng} {si : Nat} {a b : Int} (hs : si < 4) (h : a < 0 ∨ 3 < a ∨ a = (si : Int)) : stepP F ⟨2, (si : Int), a, b⟩ = none := by
  rw [stepP_at hs (by omega)]
  unfold newL
  rw [if_neg (by show ¬ (2 : Nat) = 0; omega), if_neg (by show ¬ (2 : Nat) = 1; omega), if_neg (by show ¬ (0 ≤ a ∧ a ≤ 3 ∧ a ≠ (si : Int)); omega)]
  rfl
theorem steps_none {l : List Stp} {F : Nat → List Rng} {k : Nat} {s : Stp} (hs : l[k]? = some s) (hF : stepsP F0 (l.take k) = some F) (h : stepP F s = none) : stepsP F0 l = none := stepsP_fail ((stepsP_take hs hF).trans h)
theorem addAll_none {l l2 x : List Rng} {j : Nat} {p : Rng} (hx : addAll l (l2.take j) = some x) (hp : l2[j]? = some p) (h : addP x p.1 (p.2 - 1) = none) : addAll l l2 = none := by
  have h1 := addAll_app (l2.take j) (l2.drop j) l
  rw [List.take_append_drop, hx, drop_at hp] at h1
  rw [h1]
  show (addP x p.1 (p.2 - 1)).bind _ = none
  rw [h]
  rfl
theorem addAll_some {l l2 x y : List Rng} {j : Nat} {p : Rng} (hx : addAll l (l2.take j) = some x) (hp : l2[j]? = some p) (h : addP x p.1 (p.2 - 1) = some y) : addAll l (l2.take (j + 1)) = some y := by
  rw [take_at hp, addAll_app, hx]
  show (addP x p.1 (p.2 - 1)).bind (fun m => some m) = some y
  rw [h]
  rfl
theorem putF_putF (F : Nat → List Rng) (i : Nat) (x y : List Rng) : putF (putF F i x) i y = putF F i y := by
  funext j
  unfold putF
  by_cases e : j = i
  · rw [if_pos e, if_pos e]
  · rw [if_neg e, if_neg e, if_neg e]
theorem putF_id (F : Nat → List Rng) (i : Nat) : putF F i (F i) = F := by
  funext j
  unfold putF
  by_cases e : j = i
  · rw [if_pos e, e]
  · rw [if_neg e]
end Go.Proofs.YtiffjbpejlnndaaDoor
