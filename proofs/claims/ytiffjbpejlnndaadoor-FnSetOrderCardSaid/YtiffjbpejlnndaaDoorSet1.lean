/-
  spec.Only. Conditions: steps and operations as they come in.
-/
import Derived.Test.YtiffjbpejlnndaaDoorSet0
namespace Go.Proofs.YtiffjbpejlnndaaDoor
open Go.RowKit

def isOp (ops : List Nat) (s : Stp) : Bool := ops.any fun x => decide (s.op = x)
def okOps (ops : List Nat) (l : List Stp) : Bool := l.all fun s => isOp ops s
def opsV (ops : List Nat) : List Value := ops.map fun x : Nat => Value.int .u8 (x : Int)
theorem isOp_snoc (ops : List Nat) (x : Nat) (s : Stp) : isOp (ops ++ [x]) s = (isOp ops s || decide (s.op = x)) := by
  unfold isOp
  rw [List.any_append]
  simp
theorem okOps_false {ops : List Nat} {l : List Stp} {k : Nat} {s : Stp} (hs : l[k]? = some s) (h : isOp ops s = false) : okOps ops l = false := by
  unfold okOps
  rw [List.all_eq_false]
  exact ⟨s, List.mem_of_getElem? hs, by rw [h]; decide⟩
theorem okOps_true {ops : List Nat} {l : List Stp} (h : ∀ (k : Nat) (s : Stp), k < l.length → l[k]? = some s → isOp ops s = true) : okOps ops l = true := by
  unfold okOps
  rw [List.all_eq_true]
  intro s hs
  obtain ⟨k, hk⟩ := List.getElem?_of_mem hs
  have hl : k < l.length := by
    rcases Nat.lt_or_ge k l.length with h2 | h2
    · exact h2
    · rw [List.getElem?_eq_none h2] at hk
      cases hk
  exact h k s hl hk
set_option maxRecDepth 100000 in
set_option maxHeartbeats 1000000 in
theorem only_any (w : World) (U : Nat) (A A2 : Option Addr) (c c2 : Nat) (l : List Stp) (ops : List Nat) (h : StepsAt w U A l) (h2 : RowV w A2 (opsV ops)) (hU : U ≤ w.heap.size) (hn : l.length ≤ 2147483647) (hm : ops.length ≤ 10) {x : Bool} (hx : okOps ops l = x) :
    Calls Tryd.prog 26 #[.slice A l.length c, .slice A2 ops.length c2] w (Saw w (.bool x)) := by
  have H := Lib.hid h
  have H2 := Lib.hid h2
  have HX := Lib.hid hx
  obtain ⟨n, hnn⟩ : ∃ n, l.length = n := ⟨_, rfl⟩
  obtain ⟨m, hmm⟩ : ∃ m, ops.length = m := ⟨_, rfl⟩
  rw [hnn] at hn ⊢
  rw [hmm] at hm ⊢
  have Hn := Lib.hid hnn
  have Hm := Lib.hid hmm
  clear h h2 hx hnn hmm
  go_enter Tryd.func26, Tryd.ntmps26
  go_wp2
  go_loopw [12] (fun s12 wr => ∃ k : Nat, k ≤ n ∧ s12 = .int .i64 (k : Int) ∧ Hid (∀ (i : Nat) (s : Stp), i < k → l[i]? = some s → isOp ops s = true) ∧ Below w.heap.size w wr) (fun s12 _ => n - (intOf s12).toNat)
  case atStart => exact ⟨0, Nat.zero_le _, rfl, (fun i s hi => absurd hi (Nat.not_lt_zero i)), Below.refl _ _⟩
  case round =>
    obtain ⟨k, hk, rfl, hall, hb⟩ := hrel
    by_cases hlt : k < n
    · obtain ⟨s, hs⟩ : ∃ s, l[k]? = some s := ⟨l[k]'(by rw [Hn.out]; exact hlt), List.getElem?_eq_getElem _⟩
      obtain ⟨ad, rfl, had, d0, d1, d2, d3⟩ := (H.out.below hb hU).at_ hs
      have hba := below_al hb (Nat.le_refl _) (o := P70 s)
      have hbk : Blk (wr.alloc (P70 s)) wr.heap.size 70 #[.int .u8 (s.op : Int), .int .i64 s.set, .int .i64 s.a, .int .i64 s.b] := Blk.new _ _ _
      go_upto_region 5 with fail
      generalize (wr.alloc (.cells #[.int .u8 (s.op : Int), .int .i64 s.set, .int .i64 s.a, .int .i64 s.b] 70)) = wa at hba hbk ⊢
      generalize wr.heap.size = zb at hbk ⊢
      have y0 : wa.cell? ⟨zb, 0, none⟩ = some (.int .u8 (s.op : Int)) := hbk.cell 0
      have HBA := Lib.hid hba
      have Hs := Lib.hid hs
      clear hs hb hba hbk d0 d1 d2 d3 had
      go_wp2
      go_loopw [7, 18] (fun s7 s18 wx => ∃ j : Nat, j ≤ m ∧ s18 = .int .i64 (j : Int) ∧ s7 = .bool (isOp (ops.take j) s) ∧ wx = wa) (fun _ s18 _ => m - (intOf s18).toNat)
      case atStart => exact ⟨0, Nat.zero_le _, rfl, rfl, rfl⟩
      case round =>
        obtain ⟨j, hj, rfl, rfl, rfl⟩ := hrel
        by_cases hjl : j < m
        · obtain ⟨y, hy⟩ : ∃ y, ops[j]? = some y := ⟨ops[j]'(by rw [Hm.out]; exact hjl), List.getElem?_eq_getElem _⟩
          obtain ⟨g2, rfl, c1⟩ := H2.out.below HBA.out j (.int .u8 (y : Int)) (by simp [opsV, hy])
          have Hsn := Lib.hid (show isOp (ops.take (j + 1)) s = (isOp (ops.take j) s || decide (s.op = y)) by rw [take_at hy, isOp_snoc])
          cases hi : isOp (ops.take j) s
          · rw [hi] at Hsn
            by_cases e : s.op = y
            · have Ht := Lib.hid (show isOp (ops.take (j + 1)) s = true by rw [Hsn.out, decide_eq_true e]; rfl)
              have e' : (s.op : Int) = (y : Int) := by rw [e]
              clear hy hi e
              go_wp2
              go_roundw
              case rel => exact ⟨j + 1, by omega, rfl, by rw [Ht.out], trivial⟩
              case measure =>
                simp [intOf]
                omega
            · have Ht := Lib.hid (show isOp (ops.take (j + 1)) s = false by rw [Hsn.out, decide_eq_false e]; rfl)
              have e' : ¬ (s.op : Int) = (y : Int) := by omega
              clear hy hi e
              go_wp2
              go_roundw
              case rel => exact ⟨j + 1, by omega, rfl, by rw [Ht.out]; exact congrArg Value.bool (beq_eq_false_iff_ne.2 e'), trivial⟩
              case measure =>
                simp [intOf]
                omega
          · rw [hi] at Hsn
            have Ht := Lib.hid (show isOp (ops.take (j + 1)) s = true by rw [Hsn.out]; rfl)
            clear hy hi
            go_wp2
            go_roundw
            case rel => exact ⟨j + 1, by omega, rfl, by rw [Ht.out], trivial⟩
            case measure =>
              simp [intOf]
              omega
        · have hjm : j = m := by omega
          subst hjm
          rw [List.take_of_length_le (by rw [Hm.out]; exact Nat.le_refl _)]
          cases hi : isOp ops s
          · have Hf := Lib.hid (show x = false by rw [← HX.out]; exact okOps_false Hs.out hi)
            clear hi
            go_wp2
            go_ret
            exact ⟨congrArg Ending.returned (congrArg Value.bool Hf.out.symm), HBA.out⟩
          · have Hi := Lib.hid hi
            clear hi
            go_wp2
            go_roundw
            case rel =>
              refine ⟨k + 1, by omega, rfl, fun i t hi ht => ?_, HBA.out⟩
              by_cases e : i = k
              · subst e
                rw [Hs.out] at ht
                cases ht
                exact Hi.out
              · exact hall.out i t (by omega) ht
            case measure =>
              simp [intOf]
              omega
    · have hkn : k = n := by omega
      subst hkn
      have Ht := Lib.hid (show x = true by rw [← HX.out]; exact okOps_true fun i s hi hs => hall.out i s (by rw [← Hn.out]; exact hi) hs)
      have HB := Lib.hid hb
      clear hb hall
      go_wp2
      go_ret
      exact ⟨congrArg Ending.returned (congrArg Value.bool Ht.out.symm), HB.out⟩
end Go.Proofs.YtiffjbpejlnndaaDoor
