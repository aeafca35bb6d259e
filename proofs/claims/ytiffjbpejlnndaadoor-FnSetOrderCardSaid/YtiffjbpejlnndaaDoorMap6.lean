/-
  A range over a map from numbers to true, that puts each key into another such map. Conditions: as in Map0.
-/
import Derived.Test.YtiffjbpejlnndaaDoorMap5
namespace Go.Proofs.YtiffjbpejlnndaaDoor
open Go.RowKit Go.Maps

theorem plainBool_inv {P : Program} {e : TypeId} (he : P.underlying e = some .bool) {v : Value} {z : DataW Unit × List MemPlace} (h : plainElem (H := Unit) P e v = some z) : ∃ c, v = .bool c := by
  unfold plainElem at h
  rw [he] at h
  cases v <;> simp at h
  exact ⟨_, rfl⟩
theorem wpList_next_set {P : Program} (w : World) {ops : Array Oper} {rest : List Oper} {o : Oper} {a : Act} {Q : Exit → Act → World → Prop} (hg : o.guard = none) (it : Operand) (hop : o.op = Op.next it false) (k e : TypeId) (K : Keyed P k) (hk : P.underlying k = some (.int .i64)) (he : P.underlying e = some .bool)
    (b r n : Nat) (D : DataW Unit) (left : Lit → Bool) (cnt : Nat) (hit : a.eval it = .pointer (some ⟨r, 0, none⟩)) (h : w.ranges P k (plainElem P e) b r n D left cnt)
    (hDone : (∀ kl, left kl = false) → wpList P ops Q rest (a.put o.dst (.tuple #[.bool false])) w)
    (hMore : ∀ (x : Int) (cv : Value) (w' : World) (cnt' : Nat), left (.int .i64 x) = true → w'.ranges P k (plainElem P e) b r n D (fun z => left z && !z.sameKey (.int .i64 x)) cnt' → cnt' < cnt →
      w.grownBy w' (some r) → w'.heap.size = w.heap.size → (Instr.entry (.pointer (some ⟨r, 0, none⟩))).run P w' = .ok (.tuple #[.int .i64 x, cv]) w' → wpList P ops Q rest (a.put o.dst (.tuple #[.bool true, .int .i64 x, cv])) w') :
    wpList P ops Q (o :: rest) a w :=
  wpList_next_ranges w hg it hop k K (plainElem P e) (Value.int .i64) Value.bool (fun key kl hkey => by obtain ⟨x, rfl, _⟩ := Maps.keyOf_int_inv hk hkey; exact ⟨x, rfl⟩) (fun v y hv => plainBool_inv he hv)
    b r n D left cnt hit h (fun _ hl => hDone hl) (fun x c kl y w' cnt' hkey hlk _ _ hrg hlt hgr hsz hen => by
      obtain ⟨x', ex, rfl, _⟩ := Maps.keyOf_int_inv hk hkey
      cases ex
      exact hMore x (.bool c) w' cnt' hlk hrg hlt hgr hsz hen)

theorem same_key (u v : Nat) : (key u).sameKey (key v) = (u == v) := by
  by_cases e : u = v
  · subst e
    rw [WideAt.sameKey_self (key_lit u)]
    simp
  · rw [sameKey_ne (key_ne e), beq_eq_false_iff_ne.2 e]
/-- The loop: what is gone from 'left' has come into the other map. -/
def UnInv (M : Nat) (w0 : World) (g1 r n : Nat) (D : DataW Unit) (g3 : Nat) (S0 S1 : Nat → Bool) (wr : World) : Prop :=
  ∃ left c m, wr.ranges Tryd.prog 3 (plainElem Tryd.prog 4) g1 r n D left c ∧ (∀ k, left k = true → has D k = true) ∧ SetAt wr g3 m (fun u => S0 u || (S1 u && !left (key u))) ∧ m + c ≤ M ∧ Below w0.heap.size w0 wr ∧ g3 ≠ g1 ∧ g3 ≠ r ∧ w0.heap.size ≤ r ∧ w0.heap.size ≤ g3
theorem unInv_start {M : Nat} {w0 wr w1 : World} {g1 n g3 m : Nat} {D : DataW Unit} {S0 S1 : Nat → Bool} (hD : SetD D S1) (h3 : SetAt wr g3 m S0) (hm : m + 201 ≤ M) (hb : Below w0.heap.size w0 wr) (hg : wr.grownBy w1 none) (hr : w1.ranges Tryd.prog 3 (plainElem Tryd.prog 4) g1 wr.heap.size n D (Maps.has D) (Maps.size D)) (hne : g3 ≠ g1) (h03 : w0.heap.size ≤ g3) :
    UnInv M w0 g1 wr.heap.size n D g3 S0 S1 w1 := by
  have hlt := h3.lt
  have hsz : Maps.size D ≤ 201 := by
    rw [hD.2.2.2.2.1]
    unfold cnt
    exact Nat.le_trans (List.length_filter_le _ _) (by simp)
  have hb1 : Below wr.heap.size wr w1 := ⟨hg.os, hg.tape, hg.output, hg.size, fun i hi => hg.block i hi (by simp)⟩
  refine ⟨_, _, m, hr, fun k h => h, (h3.below hb1 hlt).congr fun v => ?_, by omega, hb.trans (hb1.mono hb.size), hne, by omega, hb.size, h03⟩
  rw [hD.has_ v]
  cases S0 v <;> cases S1 v <;> rfl
theorem unInv_step {M : Nat} {w0 wr w1 w2 : World} {g1 r n g3 m c c' v : Nat} {D DU : DataW Unit} {S0 S1 : Nat → Bool} {left : Lit → Bool} (hD : SetD D S1) (hl : ∀ k, left k = true → has D k = true)
    (h3 : SetD DU (fun u => S0 u || (S1 u && !left (key u)))) (hv : left (key v) = true) (hmc : m + c ≤ M) (hcc : c' < c) (hb : Below w0.heap.size w0 wr) (hne : g3 ≠ g1) (hner : g3 ≠ r) (h0r : w0.heap.size ≤ r) (h03 : w0.heap.size ≤ g3)
    (hg1 : wr.grownBy w1 (some r)) (hr1 : w1.ranges Tryd.prog 3 (plainElem Tryd.prog 4) g1 r n D (fun z => left z && !z.sameKey (key v)) c')
    (hown2 : w2.ownsMap Tryd.prog 3 (plainElem Tryd.prog 4) g3 (m + 1) (DU.put (key v) (.lit (.bool true)))) (hg2 : w1.grownBy w2 (some g3)) : UnInv M w0 g1 r n D g3 S0 S1 w2 := by
  have hvv := hl _ hv
  rw [hD.has_ v] at hvv
  have hv2 : v ≤ 200 := by
    rcases Nat.lt_or_ge 200 v with h | h
    · rw [hD.2.2.1 v h] at hvv
      cases hvv
    · exact h
  have hb1 : Below w0.heap.size w0 w1 := hb.grown hg1 hb.size (fun j hj => by cases hj; exact h0r)
  refine ⟨_, c', m + 1, hr1.kept hg2 (by simp; exact fun e => hne e.symm) (by simp; exact fun e => hner e.symm), fun k hk => hl k (by simp at hk; exact hk.1), ⟨_, hown2, (h3.put v hv2).congr fun u => ?_⟩, by omega, hb1.grown hg2 hb1.size (fun j hj => by cases hj; exact h03), hne, hner, h0r, h03⟩
  show (u == v || (S0 u || (S1 u && !left (key u)))) = (S0 u || (S1 u && !(left (key u) && !(key u).sameKey (key v))))
  rw [same_key]
  by_cases e : u = v
  · subst e
    rw [hvv]
    simp
  · rw [beq_eq_false_iff_ne.2 e]
    simp
theorem unInv_end {wr : World} {m g3 : Nat} {S0 S1 : Nat → Bool} {left : Lit → Bool} (hl : ∀ k, left k = false) (h3 : SetAt wr g3 m (fun u => S0 u || (S1 u && !left (key u)))) : SetAt wr g3 m (fun u => S0 u || S1 u) :=
  h3.congr fun u => by rw [hl]; simp
/-- A key that comes is a number. -/
theorem key_num {D : DataW Unit} {S1 : Nat → Bool} {left : Lit → Bool} (hD : SetD D S1) (hl : ∀ k, left k = true → has D k = true) {x : Int} (hx : left (.int .i64 x) = true) : ∃ v : Nat, x = (v : Int) ∧ v ≤ 200 := by
  obtain ⟨v, e, hv⟩ := hD.2.2.2.1 _ (hl _ hx)
  exact ⟨v, by injection e, hv⟩
end Go.Proofs.YtiffjbpejlnndaaDoor
