/-
  charsAwake answers true; FnCharsSeek answers true. Conditions: the two tables of unicode/utf8 hold what they are laid as.
-/
import Derived.Test.YtiffjbpejlnndaaDoorStr6
namespace Go.Proofs.YtiffjbpejlnndaaDoor
open Go.RowKit

def AB : ByteArray := ⟨#[97, 98]⟩
theorem ab_steps : doSteps (runes AB) 0 [(0, 0), (1, 1)] = some [(0, false), (98, false)] := by decide +kernel

/-- A row that was just made at the heap's end. -/
theorem RowAt.new (w : World) (cs : List Value) (t : TypeId) (n size m : Nat) (hm : m = w.heap.size) (hl : cs.length = n * size) : RowAt (w.alloc (.cells cs.toArray t)) (some ⟨m, 0, none⟩) n size cs := by
  subst hm
  exact ⟨hl, fun _ => ⟨_, rfl, by simp, fun j u hj => by rw [World.cell?_alloc_mark]; simpa using hj⟩⟩

def True_ (w : World) (e : Ending) (w' : World) : Prop := e = .returned (.bool true) ∧ Below w.heap.size w w'

theorem chars_told {w' : World} {base : Nat} {out : List (Int × Bool)} {v : Value} (h : w'.ownsRow base 34 4 v out.length (seenRow out)) (h0 : 0 < out.length) :
    ∃ g c, v = .slice (some ⟨g, 0, none⟩) out.length c ∧ ∀ (k : Nat) p, out[k]? = some p → w'.cell? ⟨g, k * 4, none⟩ = some (.int .i64 p.1) ∧ w'.cell? ⟨g, k * 4 + 3, none⟩ = some (.bool p.2) := by
  obtain ⟨g, c, rfl, _, _⟩ := h.form h0
  refine ⟨g, c, rfl, fun k p hp => ?_⟩
  obtain ⟨q0, q3⟩ := seenRow_at out k p hp
  have a0 := h.cells (g := g) rfl _ _ q0
  have a3 := h.cells (g := g) rfl _ _ q3
  rw [add_new] at a0 a3
  exact ⟨a0, a3⟩

set_option maxRecDepth 100000 in
theorem awake_any (w : World) : Calls Tryd.prog 10 #[] w (True_ w) := by
  have hc := fun (w1 : World) (A : Option Addr) (c : Nat) (hr : RowAt w1 A 2 4 (stepRow [(0, 0), (1, 1)])) => chars_any AB (by decide) [(0, 0), (1, 1)] (by decide) _ ab_steps A c w1 hr
  have HC := Lib.hid hc
  clear hc
  go_enter Tryd.func10, Tryd.ntmps10
  go_wp2_with (go_at_call 11; refine (HC.out _ _ _ (RowAt.new _ (stepRow [(0, 0), (1, 1)]) 79 2 4 _ rfl rfl)).mono ?_; rintro e w1 ⟨v, rfl, hown, hb⟩; obtain ⟨g, c, hv, hcell⟩ := chars_told hown (by decide); subst hv; have h1 := (hcell 1 _ rfl).1; clear hcell hown)
  go_ret
  exact ⟨rfl, ((Below.refl _ _).alloc (Nat.le_refl _) _).trans (hb.mono (by simp))⟩

/-- The steps of FnCharsSeek, and what they tell. -/
def seekSteps (x y : Nat) : List (Int × Int) := [(2, x), (4, 0), (2, y), (3, 0), (4, 0), (1, 1), (5, 0)]
def seekTold (l : List Nat) (x y : Nat) : List (Int × Bool) := [(0, false), (x, false), (0, false), (0, false), (y, false), (chAt l y, false), (l.length, false)]
theorem seek_steps (l : List Nat) (x y : Nat) (hx : x ≤ l.length) (hy : y ≤ l.length) : doSteps l 0 (seekSteps x y) = some (seekTold l x y) := by
  simp [seekSteps, seekTold, doSteps, doStep, hx, hy]

theorem seek_cells {w' w2 : World} {g x y : Nat} {l : List Nat} (h : ∀ (k : Nat) p, (seekTold l x y)[k]? = some p → w'.cell? ⟨g, k * 4, none⟩ = some (.int .i64 p.1) ∧ w'.cell? ⟨g, k * 4 + 3, none⟩ = some (.bool p.2))
    (hb : Below w'.heap.size w' w2) {n : Nat} (hn : l.length = n) {r : Int} (hr : chAt l y = r) :
    w2.cell? ⟨g, 4, none⟩ = some (.int .i64 x) ∧ w2.cell? ⟨g, 16, none⟩ = some (.int .i64 y) ∧ w2.cell? ⟨g, 20, none⟩ = some (.int .i64 r) ∧ w2.cell? ⟨g, 24, none⟩ = some (.int .i64 n) := by
  subst hn
  subst hr
  have h1 := (h 1 _ rfl).1
  have h4 := (h 4 _ rfl).1
  have h5 := (h 5 _ rfl).1
  have h6 := (h 6 _ rfl).1
  have hg : g < w'.heap.size := World.block_lt_of_cell? _ _ h1
  exact ⟨(hb.cell hg).trans h1, (hb.cell hg).trans h4, (hb.cell hg).trans h5, (hb.cell hg).trans h6⟩
set_option maxRecDepth 100000 in
set_option maxHeartbeats 1000000 in
theorem seek_walk (s : ByteArray) (hs : s.size ≤ 9223372036854775807) (a b : Nat) (ha : a ≤ 255) (hb : b ≤ 255) (w : World) (hT : U8Tabs w) :
    Calls Tryd.prog 3 #[.string s, .int .u8 a, .int .u8 b] w (True_ w) := by
  by_cases hsz : s.size ≤ 2147483647
  · obtain ⟨c, C, hrun, hc, hC⟩ := run_runes w s hsz
    have hl := runes_length s
    have HT := Lib.hid hT
    have HC := Lib.hid hC
    clear hT hC
    generalize hn : (runes s).length = n at *
    have Hn := Lib.hid hn
    clear hn
    go_enter Tryd.func3, Tryd.ntmps3
    go_wp2_with (go_at_call 9; refine (fit_any s _ hsz (HT.out.below (((Below.refl _ _).alloc (Nat.le_refl _) _).drew))).mono ?_; rintro e w1 ⟨fit, rfl, hb1⟩; have HB1 := Lib.hid hb1; clear hb1; cases fit)
    · go_wp2_with (go_at_call 10; refine (awake_any _).mono ?_; rintro e w2 ⟨rfl, hb2⟩)
      go_ret
      exact ⟨rfl, (((Below.refl _ _).alloc (Nat.le_refl _) _).drew.trans (HB1.out.mono (by simp))).trans (hb2.mono (by have := HB1.out.size; simp at this; omega))⟩
    · go_quiet (fail)
      obtain ⟨x, hx, hxn⟩ : ∃ x : Nat, (a : Int) % ((n : Int) + 1) = x ∧ x ≤ n := ⟨a % (n + 1), by rw [Int.natCast_emod]; rfl, by have := Nat.mod_lt a (show 0 < n + 1 by omega); omega⟩
      obtain ⟨y, hy, hyn⟩ : ∃ y : Nat, (b : Int) % ((n : Int) + 1) = y ∧ y ≤ n := ⟨b % (n + 1), by rw [Int.natCast_emod]; rfl, by have := Nat.mod_lt b (show 0 < n + 1 by omega); omega⟩
      rw [hx, hy]
      clear hx hy
      have hsteps := seek_steps (runes s) x y (by rw [Hn.out]; exact hxn) (by rw [Hn.out]; exact hyn)
      have Hsteps := Lib.hid hsteps
      clear hsteps
      have hB1 : Below w.heap.size w w1 := (((Below.refl _ _).alloc (Nat.le_refl _) _).drew.trans (HB1.out.mono (by simp)))
      have hz1 : w.heap.size < w1.heap.size := by have := HB1.out.size; simp at this; omega
      have hcl : ∀ j r : Nat, (runes s)[j]? = some r → w1.cell? ⟨w.heap.size, j, none⟩ = some (.int .i32 (r : Int)) := fun j r hj =>
        (HB1.out.cell (p := ⟨w.heap.size, j, none⟩) (by simp)).trans ((World.cell?_alloc_mark _ _ _ _ _).trans (HC.out j r hj))
      have HB2 := Lib.hid hB1
      have HCl := Lib.hid hcl
      clear hB1 hcl HB1 HC
      go_wp2_with (go_at_call 12; refine (toSteps_any (seekSteps x y) (by simp [seekSteps]) _ 7 _ (RowAt.new _ (stepRow (seekSteps x y)) 31 7 4 _ rfl rfl)).mono ?_; rintro e w2 ⟨v, rfl, hown, hb2⟩; obtain ⟨A, c2, hv, hrow⟩ := RowAt.of_own hown; subst hv; have HRow := Lib.hid hrow; have hb3 : Below w1.heap.size w1 w2 := ((below_drewN (Below.refl _ _) _).alloc (Nat.le_refl _) _).trans (hb2.mono (by simp)); have HB3 := Lib.hid hb3; clear hown hrow hb2 hb3)
      by_cases hlt : y < n
      · obtain ⟨r, hr⟩ : ∃ r, (runes s)[y]? = some r := ⟨_, List.getElem?_eq_getElem (by rw [Hn.out]; exact hlt)⟩
        have hch : chAt (runes s) y = r := by simp [chAt, hr]
        have Hr := Lib.hid hr
        have hr31 := runes_le s r (List.mem_of_getElem? hr)
        have Hch := Lib.hid hch
        clear hr hch
        go_wp2_with (first
          | (go_at_call 11; go_must (refine (chars_any s hsz (seekSteps x y) (by simp [seekSteps]) (seekTold (runes s) x y) Hsteps.out A c2 _ HRow.out).mono ?_; rintro e w3 ⟨v3, rfl, hown3, hb3⟩; obtain ⟨og, oc, hv3, hcell3⟩ := chars_told hown3 (by simp [seekTold]); rw [show (seekTold (runes s) x y).length = 7 from rfl] at hv3; subst hv3; have HB4 := Lib.hid hb3; have HCe := Lib.hid hcell3; clear hown3 hcell3 hb3; have hy3 := ((HB3.out.trans (HB4.out.mono HB3.out.size)).cell (p := ⟨w.heap.size, y, none⟩) hz1).trans (HCl.out y r Hr.out)))
          | (go_at_call 10; refine (awake_any _).mono ?_; rintro e w4 ⟨rfl, hb4⟩; obtain ⟨e1, e4, e5, e6⟩ := seek_cells HCe.out hb4 Hn.out Hch.out; have HB5 := Lib.hid hb4; clear hb4))
        go_ret
        exact ⟨rfl, ((HB2.out.trans (HB3.out.mono (by omega))).trans (HB4.out.mono (by have := HB3.out.size; omega))).trans (HB5.out.mono (by have := HB3.out.size; have := HB4.out.size; omega))⟩
      · obtain rfl : y = n := by omega
        have hch : chAt (runes s) y = -1 := by simp [chAt, List.getElem?_eq_none (show (runes s).length ≤ y by rw [Hn.out]; omega)]
        have Hch := Lib.hid hch
        clear hch
        go_wp2_with (first
          | (go_at_call 11; go_must (refine (chars_any s hsz (seekSteps x y) (by simp [seekSteps]) (seekTold (runes s) x y) Hsteps.out A c2 _ HRow.out).mono ?_; rintro e w3 ⟨v3, rfl, hown3, hb3⟩; obtain ⟨og, oc, hv3, hcell3⟩ := chars_told hown3 (by simp [seekTold]); rw [show (seekTold (runes s) x y).length = 7 from rfl] at hv3; subst hv3; have HB4 := Lib.hid hb3; have HCe := Lib.hid hcell3; clear hown3 hcell3 hb3))
          | (go_at_call 10; refine (awake_any _).mono ?_; rintro e w4 ⟨rfl, hb4⟩; obtain ⟨e1, e4, e5, e6⟩ := seek_cells HCe.out hb4 Hn.out Hch.out; have HB5 := Lib.hid hb4; clear hb4))
        go_ret
        exact ⟨rfl, ((HB2.out.trans (HB3.out.mono (by omega))).trans (HB4.out.mono (by have := HB3.out.size; omega))).trans (HB5.out.mono (by have := HB3.out.size; have := HB4.out.size; omega))⟩
  · go_enter Tryd.func3, Tryd.ntmps3
    go_wp2_with fail
    go_ret
    exact ⟨rfl, Below.refl _ _⟩
end Go.Proofs.YtiffjbpejlnndaaDoor
