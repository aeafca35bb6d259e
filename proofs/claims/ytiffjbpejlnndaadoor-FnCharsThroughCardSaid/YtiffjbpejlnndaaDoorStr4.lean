/-
  toTokSteps: a list of steps turned into the thin package's own. Conditions: the steps bear no second number and no list of types; at most 1000 of them.
-/
import Derived.Test.YtiffjbpejlnndaaDoorStr3
namespace Go.Proofs.YtiffjbpejlnndaaDoor
open Go.RowKit

/-- The cells of steps: what each does, its number; no second number, no types. -/
def stepRow (l : List (Int × Int)) : List Value := l.flatMap fun p => [.int .u8 p.1, .int .i64 p.2, .int .i64 0, .slice none 0 0]
theorem stepRow_length (l : List (Int × Int)) : (stepRow l).length = l.length * 4 := by
  induction l with
  | nil => rfl
  | cons p l ih => simp only [stepRow, List.flatMap_cons, List.length_append, List.length_cons, List.length_nil] at ih ⊢; omega
theorem stepRow_snoc (l : List (Int × Int)) (p : Int × Int) : stepRow (l ++ [p]) = stepRow l ++ [.int .u8 p.1, .int .i64 p.2, .int .i64 0, .slice none 0 0] := by simp [stepRow]
theorem stepRow_at (l : List (Int × Int)) : ∀ (k : Nat) (p : Int × Int), l[k]? = some p →
    (stepRow l)[k * 4]? = some (.int .u8 p.1) ∧ (stepRow l)[k * 4 + 1]? = some (.int .i64 p.2) ∧ (stepRow l)[k * 4 + 2]? = some (.int .i64 0) ∧ (stepRow l)[k * 4 + 3]? = some (.slice none 0 0) := by
  induction l with
  | nil => intro k p h; simp at h
  | cons q l ih =>
    intro k p h
    have e : stepRow (q :: l) = .int .u8 q.1 :: .int .i64 q.2 :: .int .i64 0 :: .slice none 0 0 :: stepRow l := rfl
    cases k with
    | zero =>
      simp at h
      subst h
      simp [e]
    | succ k =>
      have h' := ih k p (by simpa using h)
      rw [e, show (k + 1) * 4 = k * 4 + 1 + 1 + 1 + 1 by omega]
      simpa using h'

theorem step_one (p : Int × Int) : ∀ u ∈ [Value.int .u8 p.1, .int .i64 p.2, .int .i64 0, .slice none 0 0], u.oneCell' = true := by
  intro u hu
  simp at hu
  rcases hu with rfl | rfl | rfl | rfl <;> rfl

/-- A slice value that starts at the head of block g (or is nil) and holds the cells xs. -/
def RowAt (w : World) (A : Option Addr) (n size : Nat) (xs : List Value) : Prop :=
  xs.length = n * size ∧ (0 < n → ∃ g, A = some ⟨g, 0, none⟩ ∧ g < w.heap.size ∧ ∀ (j : Nat) u, xs[j]? = some u → w.cell? ⟨g, j, none⟩ = some u)
theorem RowAt.of_own {w : World} {base : Nat} {e : TypeId} {size n : Nat} {v : Value} {xs : List Value} (h : w.ownsRow base e size v n xs) : ∃ A c, v = .slice A n c ∧ RowAt w A n size xs := by
  rcases h.2 with ⟨rfl, rfl⟩ | ⟨g, cap, cur, rfl, _, hh, _⟩
  · exact ⟨none, 0, rfl, h.1, fun h0 => absurd h0 (by omega)⟩
  · refine ⟨_, cap, rfl, h.1, fun _ => ⟨g, rfl, (Array.getElem?_eq_some_iff.1 hh).1, fun j u hj => ?_⟩⟩
    rw [← add_new]
    exact h.cells (g := g) rfl j u hj
theorem RowAt.below {w w' : World} {A : Option Addr} {n size : Nat} {xs : List Value} (h : RowAt w A n size xs) (hb : Below w.heap.size w w') : RowAt w' A n size xs :=
  ⟨h.1, fun h0 => by
    obtain ⟨g, e, hg, hc⟩ := h.2 h0
    exact ⟨g, e, Nat.lt_of_lt_of_le hg hb.size, fun j u hj => (hb.cell hg).trans (hc j u hj)⟩⟩

theorem info79 : (Tryd.prog.info? 79).map (fun i => (i.zero, i.size, i.bytes)) = some (some (.agg #[.int .u8 0, .int .i64 0, .int .i64 0, .slice none 0 0]), 4, 48) := by kernel_rfl

set_option maxRecDepth 100000 in
set_option maxHeartbeats 1000000 in
theorem toSteps_any (l : List (Int × Int)) (hl : l.length ≤ 1000) (A : Option Addr) (c : Nat) (w : World) (hr : RowAt w A l.length 4 (stepRow l)) :
    Calls Tryd.prog 12 #[.slice A l.length c] w fun e w' => ∃ v, e = .returned v ∧ w'.ownsRow w.heap.size 79 4 v l.length (stepRow l) ∧ Below w.heap.size w w' := by
  obtain ⟨i0, hi0, hz0, hz1, hz2⟩ := info_parts info79
  generalize hn : l.length = n at *
  have Hn := Lib.hid hn
  clear hn
  have HR := Lib.hid hr
  clear hr
  go_enter Tryd.func12, Tryd.ntmps12
  go_wp2
  go_loopw [3, 8] (fun v i wr => ∃ k : Nat, k ≤ n ∧ i = .int .i64 k ∧ wr.ownsRow w.heap.size 79 4 v k (stepRow (l.take k)) ∧ Below w.heap.size w wr) (fun _ i _ => n - (intOf i).toNat)
  case atStart => exact ⟨0, Nat.zero_le _, rfl, World.ownsRow_nil _ _ _ _, Below.refl _ _⟩
  case round =>
    obtain ⟨k, hk, rfl, hown, hb⟩ := hrel
    by_cases hlt : k < n
    · obtain ⟨g, rfl, hg, hc⟩ := HR.out.2 (by omega)
      obtain ⟨p, hp⟩ : ∃ p, l[k]? = some p := ⟨l[k]'(by have := Hn.out; omega), List.getElem?_eq_getElem _⟩
      obtain ⟨q0, q1, q2, q3⟩ := stepRow_at l k p hp
      have k0 := (hb.cell (p := ⟨g, k * 4, none⟩) hg).trans (hc _ _ q0)
      have k1 := (hb.cell (p := ⟨g, k * 4 + 1, none⟩) hg).trans (hc _ _ q1)
      have k2 := (hb.cell (p := ⟨g, k * 4 + 2, none⟩) hg).trans (hc _ _ q2)
      have k3 := (hb.cell (p := ⟨g, k * 4 + 3, none⟩) hg).trans (hc _ _ q3)
      clear q0 q1 q2 q3 hc
      have Hp := Lib.hid hp
      clear hp
      have HB := Lib.hid hb
      have HO := Lib.hid hown
      clear hb hown
      have hmx : k + 1 ≤ maxLen := by unfold maxLen; omega
      go_wp2_with (at_builtin; refine wpList_append_own _ rfl (.tmp 12) (.tmp 14) 27 rfl w.heap.size 79 i0 _ 4 48 Tryd.underlying27 hi0 hz0 hz1 hz2 rfl (by decide) _ _ _ rfl ((HO.out.alloc _).alloc _) ⟨wr.heap.size + 1, 0, none⟩ 1 1 [.int .u8 p.1, .int .i64 p.2, .int .i64 0, .slice none 0 0] rfl rfl (cells_new _ [.int .u8 p.1, .int .i64 p.2, .int .i64 0, .slice none 0 0] 79 _ (by simp)) (step_one p) hmx (by omega) (by have := HB.out.size; simp; omega) ?_; intro v' w1 hown' hgrow _)
      have hrow : stepRow (l.take (k + 1)) = stepRow (l.take k) ++ [.int .u8 p.1, .int .i64 p.2, .int .i64 0, .slice none 0 0] := by
        rw [← stepRow_snoc, List.take_add_one, Hp.out]
        rfl
      have hbb : Below w.heap.size w w1 :=
        (((HB.out.alloc HB.out.size _).alloc (by have := HB.out.size; simp; omega) _).grown hgrow (by have := HB.out.size; simp; omega) (fun j hj => (HO.out.lt j hj).1))
      rw [← hrow] at hown'
      go_roundw
      case rel => exact ⟨k + 1, by omega, by go_num, hown', hbb⟩
      case measure => simp [intOf]; omega
    · obtain rfl : k = n := by omega
      have hfull : l.take k = l := List.take_of_length_le (by have := Hn.out; omega)
      rw [hfull] at hown
      have HO := Lib.hid hown
      have HB := Lib.hid hb
      clear hown hb hfull
      go_wp2
      go_ret
      exact ⟨_, rfl, HO.out, HB.out⟩
end Go.Proofs.YtiffjbpejlnndaaDoor
