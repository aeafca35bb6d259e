/-
  impl.Chars: what steps over a text's characters tell. Conditions: the plain function answers the steps; at most 1000 of them; the text is shorter than 2^31.
-/
import Derived.Test.YtiffjbpejlnndaaDoorStr5
namespace Go.Proofs.YtiffjbpejlnndaaDoor
open Go.RowKit

def seenRow (l : List (Int × Bool)) : List Value := l.flatMap fun p => [.int .i64 p.1, .string ByteArray.empty, .slice none 0 0, .bool p.2]
theorem seenRow_length (l : List (Int × Bool)) : (seenRow l).length = l.length * 4 := by
  induction l with
  | nil => rfl
  | cons p l ih => simp only [seenRow, List.flatMap_cons, List.length_append, List.length_cons, List.length_nil] at ih ⊢; omega
theorem seenRow_snoc (l : List (Int × Bool)) (p : Int × Bool) : seenRow (l ++ [p]) = seenRow l ++ [.int .i64 p.1, .string ByteArray.empty, .slice none 0 0, .bool p.2] := by simp [seenRow]
theorem seenRow_at (l : List (Int × Bool)) : ∀ (k : Nat) (p : Int × Bool), l[k]? = some p →
    (seenRow l)[k * 4]? = some (.int .i64 p.1) ∧ (seenRow l)[k * 4 + 3]? = some (.bool p.2) := by
  induction l with
  | nil => intro k p h; simp at h
  | cons q l ih =>
    intro k p h
    have e : seenRow (q :: l) = .int .i64 q.1 :: .string ByteArray.empty :: .slice none 0 0 :: .bool q.2 :: seenRow l := rfl
    cases k with
    | zero =>
      simp at h
      subst h
      simp [e]
    | succ k =>
      have h' := ih k p (by simpa using h)
      rw [e, show (k + 1) * 4 = k * 4 + 1 + 1 + 1 + 1 by omega]
      simpa using h'
theorem seen_one (p : Int × Bool) : ∀ u ∈ [Value.int .i64 p.1, .string ByteArray.empty, .slice none 0 0, .bool p.2], u.oneCell' = true := by
  intro u hu
  simp at hu
  rcases hu with rfl | rfl | rfl | rfl <;> rfl
theorem own_blk_ne {w : World} {base : Nat} {e t : TypeId} {size n g : Nat} {v : Value} {xs : List Value} {cs : Array Value} (h : w.ownsRow base e size v n xs) (hg : Blk w g t cs) (hne : e ≠ t) : v.ownBlock ≠ some g := by
  rcases h.2 with ⟨rfl, _⟩ | ⟨g', cap, cur, rfl, _, hh, _⟩
  · simp [Value.ownBlock]
  · intro he
    have : g' = g := by simpa [Value.ownBlock] using he
    subst this
    exact Blk.ne_ (t := e) hh hg hne rfl
theorem RuneRow.ne_own {w : World} {base : Nat} {e : TypeId} {size n g : Nat} {v : Value} {xs : List Value} {l : List Nat} (hg : RuneRow w g l) (h : w.ownsRow base e size v n xs) (hne : e ≠ 21) : v.ownBlock ≠ some g := by
  obtain ⟨C, hb, _⟩ := hg
  exact own_blk_ne h hb hne

theorem info34 : (Tryd.prog.info? 34).map (fun i => (i.zero, i.size, i.bytes)) = some (some (.agg #[.int .i64 0, .string ByteArray.empty, .slice none 0 0, .bool false]), 4, 56) := by kernel_rfl

/-- What holds at the head of the loop: k steps have been done, none has panicked; the rest is still to be told. -/
def ChLoop (w : World) (L : List Nat) (steps : List (Int × Int)) (out : List (Int × Bool)) (b g c : Nat) (k : Nat) (v : Value) (wr : World) : Prop :=
  ∃ i told rest, told.length = k ∧ wr.ownsRow w.heap.size 34 4 v k (seenRow told) ∧ Below w.heap.size w wr ∧ Strm wr b i g L.length c ∧ RuneRow wr g L ∧ i ≤ L.length ∧
    doSteps L i (steps.drop k) = some rest ∧ out = told ++ rest

theorem chLoop_step {w : World} {L : List Nat} {steps : List (Int × Int)} {out : List (Int × Bool)} {b g c k : Nat} {v : Value} {wr : World} {p : Int × Int} (h : ChLoop w L steps out b g c k v wr) (hp : steps[k]? = some p) :
    ∃ i told num pan i', told.length = k ∧ wr.ownsRow w.heap.size 34 4 v k (seenRow told) ∧ Below w.heap.size w wr ∧ Strm wr b i g L.length c ∧ RuneRow wr g L ∧ i ≤ L.length ∧
      doStep L i p = some (num, pan, i') ∧ (pan = true → out = told ++ [(num, true)]) ∧ (pan = false → ∃ rest, doSteps L i' (steps.drop (k + 1)) = some rest ∧ out = told ++ [(num, false)] ++ rest) := by
  obtain ⟨i, told, rest, h1, h2, h3, h4, h5, h6, h7, h8⟩ := h
  have hd : steps.drop k = p :: steps.drop (k + 1) := by
    rw [List.drop_eq_getElem_cons (List.getElem?_eq_some_iff.1 hp).1]
    rw [(List.getElem?_eq_some_iff.1 hp).2]
  rw [hd] at h7
  unfold doSteps at h7
  split at h7
  · cases h7
  · next num x he =>
    injection h7 with h7
    exact ⟨i, told, num, true, x, h1, h2, h3, h4, h5, h6, he, fun _ => by rw [h8, ← h7], fun e => by cases e⟩
  · next num i' he =>
    rw [Option.map_eq_some_iff] at h7
    obtain ⟨r, hr, h7⟩ := h7
    exact ⟨i, told, num, false, i', h1, h2, h3, h4, h5, h6, he, (fun e => by cases e), fun _ => ⟨r, hr, by rw [h8, ← h7]; simp⟩⟩

/-- What the step's call leaves of the round's facts. -/
theorem chars_round {w wr w1 : World} {o : Obj} {L : List Nat} {told : List (Int × Bool)} {b g c k i : Nat} {v : Value} (hown : wr.ownsRow w.heap.size 34 4 v k (seenRow told)) (hb : Below w.heap.size w wr) (hS : Strm wr b i g L.length c)
    (hR : RuneRow wr g L) (hgr : (wr.alloc o).grownBy w1 (some b)) (hgb : g ≠ b) (hwb : w.heap.size ≤ b) :
    w1.ownsRow w.heap.size 34 4 v k (seenRow told) ∧ Below w.heap.size w w1 ∧ RuneRow w1 g L := by
  refine ⟨(hown.alloc o).kept hgr (Or.inr (own_blk_ne hown hS (by decide))), ?_, (hR.alloc o).grown hgr (fun e => hgb (by injection e))⟩
  exact (hb.alloc hb.size o).grown hgr (by have := hb.size; simp; omega) (fun j e => by injection e with e; omega)
theorem chars_next {w w1 w2 : World} {L : List Nat} {steps : List (Int × Int)} {out told : List (Int × Bool)} {b g c k i' : Nat} {v v' : Value} {num : Int} {o : Obj}
    (hown : w2.ownsRow w.heap.size 34 4 v' (k + 1) (seenRow told ++ [.int .i64 num, .string ByteArray.empty, .slice none 0 0, .bool false])) (hown1 : w1.ownsRow w.heap.size 34 4 v k (seenRow told))
    (hb : Below w.heap.size w w1) (hS : Strm w1 b i' g L.length c) (hR : RuneRow w1 g L) (hg : (w1.alloc o).grownBy w2 v.ownBlock) (hi : i' ≤ L.length) (hk : told.length = k)
    (hrest : ∃ rest, doSteps L i' (steps.drop (k + 1)) = some rest ∧ out = told ++ [(num, false)] ++ rest) : ChLoop w L steps out b g c (k + 1) v' w2 := by
  obtain ⟨rest, h1, h2⟩ := hrest
  refine ⟨i', told ++ [(num, false)], rest, by simp [hk], ?_, ?_, ?_, ?_, hi, h1, h2⟩
  · rw [seenRow_snoc]
    exact hown
  · exact (hb.alloc hb.size o).grown hg (by have := hb.size; simp; omega) (fun j hj => (hown1.lt j hj).1)
  · exact Blk.grown (Blk.alloc hS o) hg (fun e => own_blk_ne hown1 hS (by decide) e.symm)
  · exact (hR.alloc o).grown hg (fun e => hR.ne_own hown1 (by decide) e.symm)
theorem chars_cell {w2 : World} {base : Nat} {told : List (Int × Bool)} {k og cap : Nat} {num : Int} {pan : Bool}
    (h : w2.ownsRow base 34 4 (.slice (some ⟨og, 0, none⟩) (k + 1) cap) (k + 1) (seenRow told ++ [.int .i64 num, .string ByteArray.empty, .slice none 0 0, .bool pan])) (hk : told.length = k) :
    w2.cell? ⟨og, k * 4 + 3, none⟩ = some (.bool pan) := by
  have h4 := h.cells (g := og) rfl (k * 4 + 3) (.bool pan) (by
    rw [List.getElem?_append_right (by rw [seenRow_length]; omega), seenRow_length, hk, show k * 4 + 3 - k * 4 = 3 by omega]
    rfl)
  rwa [add_new] at h4

def ChPost (w : World) (out : List (Int × Bool)) (e : Ending) (w' : World) : Prop :=
  ∃ v, e = .returned v ∧ w'.ownsRow w.heap.size 34 4 v out.length (seenRow out) ∧ Below w.heap.size w w'

theorem chars_last {w w1 w2 : World} {out told : List (Int × Bool)} {k : Nat} {v v' : Value} {num : Int} {o : Obj}
    (hown : w2.ownsRow w.heap.size 34 4 v' (k + 1) (seenRow told ++ [.int .i64 num, .string ByteArray.empty, .slice none 0 0, .bool true])) (hown1 : w1.ownsRow w.heap.size 34 4 v k (seenRow told))
    (hb : Below w.heap.size w w1) (hg : (w1.alloc o).grownBy w2 v.ownBlock) (hk : told.length = k) (hout : out = told ++ [(num, true)]) : ChPost w out (.returned v') w2 := by
  subst hout
  refine ⟨_, rfl, ?_, (hb.alloc hb.size o).grown hg (by have := hb.size; simp; omega) (fun j hj => (hown1.lt j hj).1)⟩
  rw [seenRow_snoc, List.length_append, hk]
  exact hown
theorem chars_all {w wr : World} {L : List Nat} {steps : List (Int × Int)} {out : List (Int × Bool)} {b g c k : Nat} {v : Value} (h : ChLoop w L steps out b g c k v wr) (hk : steps.length = k) : ChPost w out (.returned v) wr := by
  obtain ⟨i, told, rest, h1, h2, h3, _, _, _, h7, h8⟩ := h
  rw [List.drop_of_length_le (by omega)] at h7
  simp only [doSteps, Option.some.injEq] at h7
  subst h7
  rw [List.append_nil] at h8
  subst h8
  exact ⟨_, rfl, by rw [h1]; exact h2, h3⟩

set_option maxRecDepth 100000 in
set_option maxHeartbeats 1000000 in
theorem chars_any (s : ByteArray) (hs : s.size ≤ 2147483647) (steps : List (Int × Int)) (hl : steps.length ≤ 1000) (out : List (Int × Bool)) (hout : doSteps (runes s) 0 steps = some out)
    (A : Option Addr) (c : Nat) (w : World) (hr : RowAt w A steps.length 4 (stepRow steps)) :
    Calls Tryd.prog 11 #[.string s, .slice A steps.length c] w (ChPost w out) := by
  obtain ⟨i0, hi0, hz0, hz1, hz2⟩ := info_parts info34
  have hsm : Small (runes s) := ⟨by have := runes_length s; omega, runes_le s⟩
  have hnew := newStream w s hs
  generalize hL : runes s = L at *
  clear hL
  generalize hn : steps.length = n at *
  have Hn := Lib.hid hn
  clear hn
  have HR := Lib.hid hr
  clear hr
  have Hsm := Lib.hid hsm
  clear hsm
  have Hout := Lib.hid hout
  clear hout
  go_enter Tryd.func11, Tryd.ntmps11
  go_wp2_with (go_at_call 35; refine hnew.mono ?_; rintro e w0 ⟨b, g, cc, rfl, hS, hb, hg, hgb, hRR, hB⟩)
  clear hnew
  have HS := Lib.hid hS
  have HRR := Lib.hid hRR
  have HB := Lib.hid hB
  clear hS hRR hB
  go_loopw [6, 8, 13] (fun v _ i wr => ∃ k : Nat, k ≤ n ∧ i = .int .i64 k ∧ ChLoop w L steps out b g cc k v wr) (fun _ _ i _ => n - (intOf i).toNat)
  case atStart => exact ⟨0, Nat.zero_le _, rfl, 0, [], out, rfl, World.ownsRow_nil _ _ _ _, HB.out, HS.out, HRR.out, Nat.zero_le _, Hout.out, rfl⟩
  case round =>
    obtain ⟨k, hk, rfl, hrel⟩ := hrel
    by_cases hlt : k < n
    · obtain ⟨og, rfl, hog, hc⟩ := HR.out.2 (by omega)
      obtain ⟨p, hp⟩ : ∃ p, steps[k]? = some p := ⟨steps[k]'(by have := Hn.out; omega), List.getElem?_eq_getElem _⟩
      obtain ⟨i, told, num, pan, i', t1, hown, hbel, hS, hRR, hi, hdo, hpt, hpf⟩ := chLoop_step hrel hp
      clear hrel
      obtain ⟨q0, q1, q2, q3⟩ := stepRow_at steps k p hp
      have k0 := (hbel.cell (p := ⟨og, k * 4, none⟩) hog).trans (hc _ _ q0)
      have k1 := (hbel.cell (p := ⟨og, k * 4 + 1, none⟩) hog).trans (hc _ _ q1)
      have k2 := (hbel.cell (p := ⟨og, k * 4 + 2, none⟩) hog).trans (hc _ _ q2)
      have k3 := (hbel.cell (p := ⟨og, k * 4 + 3, none⟩) hog).trans (hc _ _ q3)
      have hstep := fun o : Obj => (step_any L Hsm.out (wr.alloc o) b i g cc p num pan i' (Blk.alloc hS o) (hRR.alloc o) hi hdo).1.mono fun e w' h => show e = .returned (.agg #[.int .i64 num, .string ByteArray.empty, .slice none 0 0, .bool pan]) ∧ (wr.alloc o).grownBy w' (some b) ∧ Strm w' b i' g L.length cc from h
      have hi' := (step_any L Hsm.out wr b i g cc p num pan i' hS hRR hi hdo).2
      clear q0 q1 q2 q3 hc hp
      have HO := Lib.hid hown
      have HBel := Lib.hid hbel
      have HS1 := Lib.hid hS
      have HRR1 := Lib.hid hRR
      have Hdo := Lib.hid hdo
      have Hpt := Lib.hid hpt
      have Hpf := Lib.hid hpf
      have Ht1 := Lib.hid t1
      have Hstep := Lib.hid hstep
      clear hown hbel hS hRR hdo hpt hpf t1 hstep
      have hmx : k + 1 ≤ maxLen := by unfold maxLen; omega
      cases pan
      · go_wp2_with (first
          | (go_at_call 36; refine (Hstep.out _).mono ?_; rintro e w1 ⟨rfl, hgr, hS1⟩; have hd := chars_round HO.out HBel.out HS1.out HRR1.out hgr hgb hb; have HD := Lib.hid hd; have HS2 := Lib.hid hS1; clear hd hgr hS1)
          | (at_builtin; refine wpList_append_own _ rfl (.tmp 17) (.tmp 21) 25 rfl w.heap.size 34 i0 _ 4 56 Tryd.underlying25 hi0 hz0 hz1 hz2 rfl (by decide) _ _ _ rfl (HD.out.1.alloc _) ⟨w1.heap.size, 0, none⟩ 1 1 [.int .i64 num, .string ByteArray.empty, .slice none 0 0, .bool false] rfl rfl (cells_new _ [.int .i64 num, .string ByteArray.empty, .slice none 0 0, .bool false] 34 _ rfl) (seen_one (num, false)) hmx (by omega) (by have := HD.out.2.1.size; simp; omega) ?_; intro v' w2 hown' hgrow _; obtain ⟨og2, cap2, hv2, hog2, hlt2⟩ := hown'.form (by omega); subst hv2; have hcell := chars_cell hown' Ht1.out; have HO2 := Lib.hid hown'; have HG2 := Lib.hid hgrow; clear hown' hgrow))
        go_roundw
        case rel => exact ⟨k + 1, by omega, by go_num, chars_next HO2.out HD.out.1 HD.out.2.1 HS2.out HD.out.2.2 HG2.out hi' Ht1.out (Hpf.out (by simp))⟩
        case measure => simp [intOf]; omega
      · go_wp2_with (first
          | (go_at_call 36; refine (Hstep.out _).mono ?_; rintro e w1 ⟨rfl, hgr, hS1⟩; have hd := chars_round HO.out HBel.out HS1.out HRR1.out hgr hgb hb; have HD := Lib.hid hd; have HS2 := Lib.hid hS1; clear hd hgr hS1)
          | (at_builtin; refine wpList_append_own _ rfl (.tmp 17) (.tmp 21) 25 rfl w.heap.size 34 i0 _ 4 56 Tryd.underlying25 hi0 hz0 hz1 hz2 rfl (by decide) _ _ _ rfl (HD.out.1.alloc _) ⟨w1.heap.size, 0, none⟩ 1 1 [.int .i64 num, .string ByteArray.empty, .slice none 0 0, .bool true] rfl rfl (cells_new _ [.int .i64 num, .string ByteArray.empty, .slice none 0 0, .bool true] 34 _ rfl) (seen_one (num, true)) hmx (by omega) (by have := HD.out.2.1.size; simp; omega) ?_; intro v' w2 hown' hgrow _; obtain ⟨og2, cap2, hv2, hog2, hlt2⟩ := hown'.form (by omega); subst hv2; have hcell := chars_cell hown' Ht1.out; have HO2 := Lib.hid hown'; have HG2 := Lib.hid hgrow; clear hown' hgrow))
        go_ret
        exact chars_last HO2.out HD.out.1 HD.out.2.1 HG2.out Ht1.out (Hpt.out (by simp))
    · obtain rfl : k = n := by omega
      have Hrel := Lib.hid hrel
      clear hrel
      go_wp2
      go_ret
      exact chars_all Hrel.out Hn.out
end Go.Proofs.YtiffjbpejlnndaaDoor
