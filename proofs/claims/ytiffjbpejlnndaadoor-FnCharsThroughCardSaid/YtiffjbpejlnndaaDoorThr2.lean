/-
  FnCharsThrough answers true. Conditions: the two tables of unicode/utf8 hold what they are laid as.
-/
import Derived.Test.YtiffjbpejlnndaaDoorThr1
import Derived.Test.YtiffjbpejlnndaaDoorStr7
namespace Go.Proofs.YtiffjbpejlnndaaDoor
open Go.RowKit

theorem info31 : (Tryd.prog.info? 31).map (fun i => (i.zero, i.size, i.bytes)) = some (some (.agg #[.int .u8 0, .int .i64 0, .int .i64 0, .slice none 0 0]), 4, 48) := by kernel_rfl
theorem stepRow_app (a b : List (Int × Int)) : stepRow (a ++ b) = stepRow a ++ stepRow b := by simp [stepRow]
theorem stepRow_one (l : List (Int × Int)) : ∀ u ∈ stepRow l, u.oneCell' = true := by
  intro u hu
  simp only [stepRow, List.mem_flatMap] at hu
  obtain ⟨p, _, hu⟩ := hu
  exact step_one p u hu

theorem toSteps_n (l : List (Int × Int)) (n : Nat) (hn : l.length = n) (hl : n ≤ 1000) (A : Option Addr) (c : Nat) (w : World) (hr : RowAt w A n 4 (stepRow l)) :
    Calls Tryd.prog 12 #[.slice A n c] w fun e w' => ∃ v, e = .returned v ∧ w'.ownsRow w.heap.size 79 4 v n (stepRow l) ∧ Below w.heap.size w w' := by
  subst hn
  exact toSteps_any l hl A c w hr
theorem chars_n (s : ByteArray) (hs : s.size ≤ 2147483647) (steps : List (Int × Int)) (n : Nat) (hn : steps.length = n) (hl : n ≤ 1000) (out : List (Int × Bool)) (hout : doSteps (runes s) 0 steps = some out)
    (A : Option Addr) (c : Nat) (w : World) (hr : RowAt w A n 4 (stepRow steps)) : Calls Tryd.prog 11 #[.string s, .slice A n c] w (ChPost w out) := by
  subst hn
  exact chars_any s hs steps hl out hout A c w hr
theorem th_len (n : Nat) : (thSteps n ++ thEnd).length = 3 * n + 3 := by simp [thSteps_length, thEnd]
theorem told_len (l : List Nat) (n : Nat) (hn : l.length = n) : (thTold l ++ thLast n).length = 3 * n + 3 := by simp [thTold_length, thLast, hn]
/-- The cells of what was told. -/
def ThCells (w : World) (g : Nat) (l : List Nat) (n : Nat) : Prop :=
  (∀ j r : Nat, l[j]? = some r → w.cell? ⟨g, 3 * j * 4, none⟩ = some (.int .i64 r) ∧ w.cell? ⟨g, (3 * j + 2) * 4, none⟩ = some (.int .i64 r)) ∧
  w.cell? ⟨g, 3 * n * 4, none⟩ = some (.int .i64 (-1)) ∧ w.cell? ⟨g, (3 * n + 1) * 4, none⟩ = some (.int .i64 n) ∧ w.cell? ⟨g, (3 * n + 2) * 4 + 3, none⟩ = some (.bool true)
theorem th_cells {w w2 : World} {g n : Nat} {l : List Nat} (hn : l.length = n) (hb : Below w.heap.size w w2)
    (h : ∀ (k : Nat) p, (thTold l ++ thLast n)[k]? = some p → w.cell? ⟨g, k * 4, none⟩ = some (.int .i64 p.1) ∧ w.cell? ⟨g, k * 4 + 3, none⟩ = some (.bool p.2)) : ThCells w2 g l n := by
  have hl := thTold_length l
  have e0 : (thTold l ++ thLast n)[3 * n]? = some (-1, false) := by
    rw [List.getElem?_append_right (by omega), hl, hn, show 3 * n - 3 * n = 0 by omega]; rfl
  have e1 : (thTold l ++ thLast n)[3 * n + 1]? = some ((n : Int), false) := by
    rw [List.getElem?_append_right (by omega), hl, hn, show 3 * n + 1 - 3 * n = 1 by omega]; rfl
  have e2 : (thTold l ++ thLast n)[3 * n + 2]? = some (0, true) := by
    rw [List.getElem?_append_right (by omega), hl, hn, show 3 * n + 2 - 3 * n = 2 by omega]; rfl
  have a0 := (h _ _ e0).1
  have hg : g < w.heap.size := World.block_lt_of_cell? _ _ a0
  have up : ∀ {o v}, w.cell? ⟨g, o, none⟩ = some v → w2.cell? ⟨g, o, none⟩ = some v := fun hc => (hb.cell hg).trans hc
  refine ⟨fun j r hj => ?_, up a0, up (h _ _ e1).1, up (h _ _ e2).2⟩
  have hlt : j < l.length := (List.getElem?_eq_some_iff.1 hj).1
  obtain ⟨b0, b2⟩ := thTold_at l j r hj
  exact ⟨up (h (3 * j) ((r : Int), false) (by rw [List.getElem?_append_left (by omega)]; exact b0)).1, up (h (3 * j + 2) ((r : Int), false) (by rw [List.getElem?_append_left (by omega)]; exact b2)).1⟩

/-- What holds of the loop that lays the steps. -/
def ThLoop (w w0 : World) (n k : Nat) (v : Value) (wr : World) : Prop := wr.ownsRow w0.heap.size 31 4 v (3 * k) (stepRow (thSteps k)) ∧ Below w0.heap.size w0 wr ∧ w.heap.size ≤ w0.heap.size ∧ k ≤ n

theorem th_next {w1 wr w2 : World} {k n : Nat} {v v' : Value} {o : Obj} (hown : wr.ownsRow w1.heap.size 31 4 v (3 * k) (stepRow (thSteps k))) (hb : Below w1.heap.size w1 wr)
    (hown' : w2.ownsRow w1.heap.size 31 4 v' (3 * k + 3) (stepRow (thSteps k) ++ stepRow thOne)) (hg : (wr.alloc o).grownBy w2 v.ownBlock) (_hlt : k < n) :
    w2.ownsRow w1.heap.size 31 4 v' (3 * (k + 1)) (stepRow (thSteps (k + 1))) ∧ Below w1.heap.size w1 w2 := by
  refine ⟨?_, (hb.alloc hb.size o).grown hg (by have := hb.size; simp; omega) (fun j hj => (hown.lt j hj).1)⟩
  rw [thSteps, stepRow_app, show 3 * (k + 1) = 3 * k + 3 by omega]
  exact hown'

set_option maxRecDepth 100000 in
set_option maxHeartbeats 1000000 in
theorem through_walk (s : ByteArray) (hs : s.size ≤ 9223372036854775807) (w : World) (hT : U8Tabs w) :
    Calls Tryd.prog 4 #[.string s] w (True_ w) := by
  by_cases hsz : s.size ≤ 2147483647
  · obtain ⟨c, C, hrun, hc, hC⟩ := run_runes w s hsz
    have hl := runes_length s
    have HT := Lib.hid hT
    have HC := Lib.hid hC
    clear hT hC
    generalize hn : (runes s).length = n at *
    have Hn := Lib.hid hn
    clear hn
    obtain ⟨i0, hi0, hz0, hz1', hz2⟩ := info_parts info31
    by_cases h20 : n ≤ 20
    · go_enter Tryd.func4, Tryd.ntmps4
      go_wp2_with (go_at_call 9; refine (fit_any s _ hsz (HT.out.below (((Below.refl _ _).alloc (Nat.le_refl _) _).drew))).mono ?_; rintro e w1 ⟨fit, rfl, hb1⟩; have HB1 := Lib.hid hb1; clear hb1; cases fit)
      · go_wp2_with (go_at_call 10; refine (awake_any _).mono ?_; rintro e w2 ⟨rfl, hb2⟩)
        go_ret
        exact ⟨rfl, (((Below.refl _ _).alloc (Nat.le_refl _) _).drew.trans (HB1.out.mono (by simp))).trans (hb2.mono (by have := HB1.out.size; simp at this; omega))⟩
      · have hB1 : Below w.heap.size w w1 := (((Below.refl _ _).alloc (Nat.le_refl _) _).drew.trans (HB1.out.mono (by simp)))
        have hz1 : w.heap.size < w1.heap.size := by have := HB1.out.size; simp at this; omega
        have hcl : ∀ j r : Nat, (runes s)[j]? = some r → w1.cell? ⟨w.heap.size, j, none⟩ = some (.int .i32 (r : Int)) := fun j r hj =>
          (HB1.out.cell (p := ⟨w.heap.size, j, none⟩) (by simp)).trans ((World.cell?_alloc_mark _ _ _ _ _).trans (HC.out j r hj))
        have HB2 := Lib.hid hB1
        have HCl := Lib.hid hcl
        clear hB1 hcl HB1 HC
        go_loopw [4, 25] (fun v i wr => ∃ k : Nat, i = .int .i64 k ∧ ThLoop w w1 n k v wr) (fun _ i _ => n - (intOf i).toNat)
        case atStart => exact ⟨0, rfl, World.ownsRow_nil _ _ _ _, Below.refl _ _, by omega, Nat.zero_le _⟩
        case round =>
          obtain ⟨k, rfl, hown, hb, _, hk⟩ := hrel
          have HO := Lib.hid hown
          have HB := Lib.hid hb
          clear hown hb
          have hmx : 3 * k + 3 ≤ maxLen := by unfold maxLen; omega
          by_cases hlt : k < n
          · go_wp2_with (at_builtin; go_must (refine wpList_append_own _ rfl (.tmp 27) (.tmp 31) 32 rfl w1.heap.size 31 i0 _ 4 48 Tryd.underlying32 hi0 hz0 hz1' hz2 rfl (by decide) _ _ _ rfl (HO.out.alloc _) ⟨wr.heap.size, 0, none⟩ 3 3 (stepRow thOne) rfl rfl (cells_new _ (stepRow thOne) 31 _ rfl) (stepRow_one thOne) hmx (by omega) (by have := HB.out.size; simp; omega) ?_; intro v' w2 hown' hgrow _))
            have hnext := th_next HO.out HB.out hown' hgrow hlt
            go_roundw
            case rel => exact ⟨k + 1, by go_num, hnext.1, hnext.2, by omega, by omega⟩
            case measure => simp [intOf]; omega
          · obtain rfl : k = n := by omega
            go_wp2_with (at_builtin; go_must (refine wpList_append_own _ rfl (.tmp 35) (.tmp 39) 32 rfl w1.heap.size 31 i0 _ 4 48 Tryd.underlying32 hi0 hz0 hz1' hz2 rfl (by decide) _ _ _ rfl (HO.out.alloc _) ⟨wr.heap.size, 0, none⟩ 3 3 (stepRow thEnd) rfl rfl (cells_new _ (stepRow thEnd) 31 _ rfl) (stepRow_one thEnd) hmx (by omega) (by have := HB.out.size; simp; omega) ?_; intro v' w2 hown' hgrow _))
            obtain ⟨og2, cap2, hv2, _, _⟩ := hown'.form (by omega)
            subst hv2
            obtain ⟨A2, c2, hv2, hrow⟩ := RowAt.of_own hown'
            obtain ⟨rfl, rfl⟩ : some ⟨og2, 0, none⟩ = A2 ∧ cap2 = c2 := by injection hv2 with e1 _ e3; exact ⟨e1, e3⟩
            have hb2 := (HB.out.alloc (by have := HB.out.size; omega) _).grown hgrow (by have := HB.out.size; simp; omega) (fun j hj => (HO.out.lt j hj).1)
            rw [← stepRow_app] at hrow
            have HRow := Lib.hid hrow
            have HB3 := Lib.hid hb2
            clear hown' hgrow hrow hb2 hv2
            have hsteps := th_told (runes s)
            rw [Hn.out] at hsteps
            have Hsteps := Lib.hid hsteps
            clear hsteps
            go_wp2_with (go_at_call 12; go_must (refine (toSteps_n (thSteps k ++ thEnd) (3 * k + 3) (th_len k) (by omega) _ _ _ HRow.out).mono ?_; rintro e w3 ⟨v3, rfl, hown3, hb3⟩; obtain ⟨A3, c3, hv3, hrow3⟩ := RowAt.of_own hown3; subst hv3; have HRow3 := Lib.hid hrow3; have HB4 := Lib.hid hb3; clear hown3 hrow3 hb3))
            go_wp2_with (first
              | (go_at_call 11; go_must (refine (chars_n s hsz (thSteps k ++ thEnd) (3 * k + 3) (th_len k) (by omega) (thTold (runes s) ++ thLast k) Hsteps.out A3 c3 _ HRow3.out).mono ?_; rintro e w4 ⟨v4, rfl, hown4, hb4⟩; obtain ⟨og, oc, hv4, hcell4⟩ := chars_told hown4 (by rw [told_len _ _ Hn.out]; omega); rw [told_len _ _ Hn.out] at hv4; subst hv4; have HB5 := Lib.hid hb4; have HCe := Lib.hid hcell4; clear hown4 hcell4 hb4))
              | (go_at_call 10; go_must (refine (awake_any _).mono ?_; rintro e w5 ⟨rfl, hb5⟩; have hth := th_cells Hn.out hb5 HCe.out; have HTh := Lib.hid hth; have HB6 := Lib.hid hb5; clear hb5 hth)))
            have hB : Below w.heap.size w w5 := (((HB2.out.trans (HB3.out.mono (by omega))).trans (HB4.out.mono (by have := HB3.out.size; omega))).trans (HB5.out.mono (by have := HB3.out.size; have := HB4.out.size; omega))).trans (HB6.out.mono (by have := HB3.out.size; have := HB4.out.size; have := HB5.out.size; omega))
            have hcl : ∀ j r : Nat, (runes s)[j]? = some r → w5.cell? ⟨w.heap.size, j, none⟩ = some (.int .i32 (r : Int)) := fun j r hj =>
              ((((HB3.out.trans (HB4.out.mono (by have := HB3.out.size; omega))).trans (HB5.out.mono (by have := HB3.out.size; have := HB4.out.size; omega))).trans (HB6.out.mono (by have := HB3.out.size; have := HB4.out.size; have := HB5.out.size; omega))).cell (p := ⟨w.heap.size, j, none⟩) hz1).trans (HCl.out j r hj)
            have HBa := Lib.hid hB
            have HCl2 := Lib.hid hcl
            clear hB hcl
            go_loop [56] (fun i => ∃ j : Nat, j ≤ k ∧ i = .int .i64 j) (fun i => k - (intOf i).toNat)
            case atStart => exact ⟨0, Nat.zero_le _, rfl⟩
            case round =>
              obtain ⟨j, hj, rfl⟩ := hrel
              by_cases hjk : j < k
              · obtain ⟨r, hr⟩ : ∃ r, (runes s)[j]? = some r := ⟨_, List.getElem?_eq_getElem (by rw [Hn.out]; exact hjk)⟩
                have hr31 := runes_le s r (List.mem_of_getElem? hr)
                have q0 := HCl2.out j r hr
                obtain ⟨q1, q2⟩ := HTh.out.1 j r hr
                have Hr := Lib.hid hr
                clear hr
                go_wp2_with fail
                go_round
                case rel => exact ⟨j + 1, by omega, by go_num⟩
                case measure => simp [intOf]; omega
              · obtain rfl : j = k := by omega
                obtain ⟨_, q1, q2, q3⟩ := HTh.out
                go_wp2_with fail
                go_ret
                exact ⟨rfl, HBa.out⟩
    · go_enter Tryd.func4, Tryd.ntmps4
      go_wp2_with (first | (go_at_call 9; refine (fit_any s _ hsz (HT.out.below (((Below.refl _ _).alloc (Nat.le_refl _) _).drew))).mono ?_; rintro e w1 ⟨fit, rfl, hb1⟩; have HB1 := Lib.hid hb1; clear hb1; cases fit) | (go_at_call 10; refine (awake_any _).mono ?_; rintro e w2 ⟨rfl, hb2⟩))
      all_goals go_ret
      all_goals exact ⟨rfl, (((Below.refl _ _).alloc (Nat.le_refl _) _).drew.trans (HB1.out.mono (by simp))).trans (hb2.mono (by have := HB1.out.size; simp at this; omega))⟩
  · go_enter Tryd.func4, Tryd.ntmps4
    go_wp2_with fail
    go_ret
    exact ⟨rfl, Below.refl _ _⟩
end Go.Proofs.YtiffjbpejlnndaaDoor
