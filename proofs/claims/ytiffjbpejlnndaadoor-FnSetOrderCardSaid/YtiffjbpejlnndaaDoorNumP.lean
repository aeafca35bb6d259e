/-
  The specification's sets of numbers: Has, Count, Runs, joins, add. Conditions: as each theorem says.
-/
import Derived.Test.YtiffjbpejlnndaaDoorIvlS
import Derived.Test.YtiffjbpejlnndaaDoorIvlP
namespace Go.Proofs.YtiffjbpejlnndaaDoor
open Go.RowKit

/-- From offset o of block b on lie the 141 marks of a set. -/
def NumAt (w : World) (b o : Nat) (S : Int → Bool) : Prop := ∀ i : Nat, i < 141 → w.cell? ⟨b, o + i, none⟩ = some (.bool (S ((i : Int) - 20)))
theorem NumAt.below {w w' : World} {b o B : Nat} {S : Int → Bool} (h : NumAt w b o S) (hb : Below B w w') (hB : b < B) : NumAt w' b o S := fun i hi => (hb.cell (p := ⟨b, o + i, none⟩) hB).trans (h i hi)
theorem NumAt.lt {w : World} {b o : Nat} {S : Int → Bool} (h : NumAt w b o S) : b < w.heap.size := World.block_lt_of_cell? w _ (h 0 (by omega))
set_option maxRecDepth 100000 in
theorem has_in (w : World) (b o : Nat) (S : Int → Bool) (n : Int) (h : NumAt w b o S) (h1 : -20 ≤ n) (h2 : n ≤ 120) :
    Calls Tryd.prog 25 #[.pointer (some ⟨b, o, none⟩), .int .i64 n] w fun e w' => e = .returned (.bool (S n)) ∧ w = w' := by
  have hi := h (n + 20).toNat (by omega)
  have e1 : ((n + 20).toNat : Int) - 20 = n := by omega
  rw [e1] at hi
  have h3 : (n + 20).toNat < 141 := by omega
  have h4 : 0 ≤ n + 20 := by omega
  have h5 : n + 20 < 141 := by omega
  generalize S n = x at hi
  clear e1 h
  go_enter Tryd.func25, Tryd.ntmps25
  go_wp2
  go_ret
  exact ⟨rfl, rfl⟩
set_option maxRecDepth 100000 in
theorem has_out (w : World) (b o : Nat) (n : Int) (h : n < -20 ∨ 120 < n) :
    Calls Tryd.prog 25 #[.pointer (some ⟨b, o, none⟩), .int .i64 n] w fun e w' => e = .returned (.bool false) ∧ w = w' := by
  by_cases h1 : -20 ≤ n
  · have h2 : 120 < n := by omega
    clear h
    go_enter Tryd.func25, Tryd.ntmps25
    go_wp2
    go_ret
    exact ⟨rfl, rfl⟩
  · clear h
    go_enter Tryd.func25, Tryd.ntmps25
    go_wp2
    go_ret
    exact ⟨rfl, rfl⟩
/-- How many of the first k numbers. -/
def cntTo (S : Int → Bool) (k : Nat) : Nat := ((List.range k).filter fun i : Nat => S ((i : Int) - 20)).length
theorem cntTo_succ (S : Int → Bool) (k : Nat) : cntTo S (k + 1) = cntTo S k + if S ((k : Int) - 20) = true then 1 else 0 := by
  unfold cntTo
  rw [List.range_succ, List.filter_append, List.length_append]
  by_cases h : S ((k : Int) - 20) = true
  · rw [if_pos h, List.filter_cons_of_pos (p := fun i : Nat => S ((i : Int) - 20)) h]
    rfl
  · rw [if_neg h, List.filter_cons_of_neg (p := fun i : Nat => S ((i : Int) - 20)) h]
    rfl
theorem cntTo_le (S : Int → Bool) (k : Nat) : cntTo S k ≤ k := by
  unfold cntTo
  exact Nat.le_trans (List.length_filter_le _ _) (by simp)
set_option maxRecDepth 100000 in
theorem count_any (w : World) (b o : Nat) (S : Int → Bool) (h : NumAt w b o S) :
    Calls Tryd.prog 24 #[.pointer (some ⟨b, o, none⟩)] w fun e w' => e = .returned (.int .i64 (cntI S : Nat)) ∧ w = w' := by
  have H := Lib.hid h
  clear h
  go_enter Tryd.func24, Tryd.ntmps24
  go_wp2
  go_loop [3, 7] (fun s3 s7 => ∃ k : Nat, k ≤ 141 ∧ s7 = .int .i64 (k : Int) ∧ s3 = .int .i64 (cntTo S k : Nat)) (fun _ s7 => 141 - (intOf s7).toNat)
  case atStart => exact ⟨0, Nat.zero_le _, rfl, rfl⟩
  case round =>
    obtain ⟨k, hk, rfl, rfl⟩ := hrel
    have hc := cntTo_succ S k
    have hl := cntTo_le S k
    generalize hcc : cntTo S k = c at hc hl
    have Hcc := Lib.hid hcc
    clear hcc
    by_cases hlt : k < 141
    · have hi := H.out k hlt
      cases hx : S ((k : Int) - 20)
      · have Hc := Lib.hid (show cntTo S (k + 1) = c by rw [hc, hx]; rfl)
        rw [hx] at hi
        clear hc hx
        go_wp2
        go_round
        case rel => exact ⟨k + 1, by omega, rfl, by rw [Hc.out]⟩
        case measure =>
          simp [intOf]
          omega
      · have Hc := Lib.hid (show cntTo S (k + 1) = c + 1 by rw [hc, hx]; rfl)
        rw [hx] at hi
        clear hc hx
        go_wp2
        go_round
        case rel => exact ⟨k + 1, by omega, rfl, by rw [Hc.out]; go_num⟩
        case measure =>
          simp [intOf]
          omega
    · have hkn : k = 141 := by omega
      subst hkn
      have Hc := Lib.hid (show cntI S = c from Hcc.out)
      clear hc
      go_wp2
      go_ret
      exact ⟨retI (by rw [Hc.out]), rfl⟩
end Go.Proofs.YtiffjbpejlnndaaDoor
namespace Go.Proofs.YtiffjbpejlnndaaDoor
open Go.RowKit

/-- The cells of a row of runs, each by its least and its greatest number. -/
def rowJ (l : List Rng) : List Value := l.flatMap fun p => [.int .i64 p.1, .int .i64 (p.2 - 1)]
theorem rowJ_append (a b : List Rng) : rowJ (a ++ b) = rowJ a ++ rowJ b := by simp [rowJ]
theorem rowJ_length (l : List Rng) : (rowJ l).length = l.length * 2 := by
  induction l with
  | nil => rfl
  | cons q l ih =>
    have e : rowJ (q :: l) = .int .i64 q.1 :: .int .i64 (q.2 - 1) :: rowJ l := rfl
    rw [e, List.length_cons, List.length_cons, List.length_cons, ih]
    omega
theorem rowJ_at : ∀ (l : List Rng) (k : Nat) (p : Rng), l[k]? = some p → (rowJ l)[k * 2]? = some (.int .i64 p.1) ∧ (rowJ l)[k * 2 + 1]? = some (.int .i64 (p.2 - 1))
  | [], k, p, h => by simp at h
  | q :: l, 0, p, h => by
    have : q = p := by simpa using h
    subst this
    exact ⟨rfl, rfl⟩
  | q :: l, k + 1, p, h => by
    have ih := rowJ_at l k p (by simpa using h)
    have e : rowJ (q :: l) = .int .i64 q.1 :: .int .i64 (q.2 - 1) :: rowJ l := rfl
    rw [e, show (k + 1) * 2 = k * 2 + 1 + 1 by omega]
    simpa using ih
/-- The last run is made longer. -/
theorem rowJ_last (J : List Rng) (p : Rng) (n : Int) : (rowJ (J ++ [p])).set (J.length * 2 + 1) (.int .i64 n) = rowJ (J ++ [(p.1, n + 1)]) := by
  rw [rowJ_append, rowJ_append, List.set_append_right _ _ (by rw [rowJ_length]; omega), rowJ_length, show J.length * 2 + 1 - J.length * 2 = 1 by omega]
  show rowJ J ++ [.int .i64 p.1, .int .i64 n] = rowJ J ++ [.int .i64 p.1, .int .i64 (n + 1 - 1)]
  rw [Int.add_sub_cancel]
theorem own_new {w : World} {B : Nat} {v : Value} {J : List Rng} {n : Int} {m : Nat} (hm : J.length = m) (h : w.ownsRow B 62 2 v (m + 1) (rowJ J ++ [.int .i64 n, .int .i64 n])) : w.ownsRow B 62 2 v (J ++ [(n, n + 1)]).length (rowJ (J ++ [(n, n + 1)])) := by
  have e : rowJ (J ++ [(n, n + 1)]) = rowJ J ++ [.int .i64 n, .int .i64 n] := by
    rw [rowJ_append]
    show rowJ J ++ [.int .i64 n, .int .i64 (n + 1 - 1)] = _
    rw [Int.add_sub_cancel]
  rw [e, List.length_append, hm]
  exact h
theorem rowJ_one (a b : Int) : ∀ u ∈ [Value.int .i64 a, Value.int .i64 b], u.oneCell' = true := by
  intro u hu
  simp at hu
  rcases hu with rfl | rfl <;> rfl
theorem info62 : (Tryd.prog.info? 62).map (fun i => (i.zero, i.size, i.bytes)) = some (some (.agg #[.int .i64 0, .int .i64 0]), 2, 16) := by kernel_rfl
def RunsPost (w : World) (S : Int → Bool) (e : Ending) (w' : World) : Prop := ∃ v J, e = .returned v ∧ RunsInv S 121 J ∧ w'.ownsRow w.heap.size 62 2 v J.length (rowJ J) ∧ Below w.heap.size w w'
set_option maxRecDepth 100000 in
set_option maxHeartbeats 2000000 in
theorem runs_inv (w : World) (b o : Nat) (S : Int → Bool) (h : NumAt w b o S) : Calls Tryd.prog 22 #[.pointer (some ⟨b, o, none⟩)] w (RunsPost w S) := by
  have hbl := h.lt
  have H := Lib.hid h
  obtain ⟨i0, hi0, hz0, hz1, hz2⟩ := info_parts info62
  clear h
  go_enter Tryd.func22, Tryd.ntmps22
  go_wp2
  go_loopw [3, 4] (fun s3 s4 wr => ∃ (n : Int) (J : List Rng), -20 ≤ n ∧ n ≤ 121 ∧ s4 = .int .i64 n ∧ Hid (RunsInv S n J) ∧ wr.ownsRow w.heap.size 62 2 s3 J.length (rowJ J) ∧ Below w.heap.size w wr) (fun _ s4 _ => (121 - intOf s4).toNat)
  case atStart => exact ⟨-20, [], by omega, by omega, rfl, RunsInv.zero S, ⟨rfl, .inl ⟨rfl, rfl⟩⟩, Below.refl _ _⟩
  case round =>
    obtain ⟨n, J, hn1, hn2, rfl, hJ, hown, hb⟩ := hrel
    have HN := Lib.hid (H.out.below hb hbl)
    have HB := Lib.hid hb
    have hjl := hJ.out.small hn2
    have hsz := (below_al hb (Nat.le_refl _) (o := .cells #[.int .i64 n, .int .i64 n] 62)).size
    obtain ⟨A3, c3, rfl⟩ := own_slice hown
    clear hb
    by_cases hlt : n ≤ 120
    · cases hx : S n
      · have HJ := Lib.hid (hJ.out.no hx)
        have Hx := Lib.hid hx
        have HO := Lib.hid hown
        clear hJ hx hown
        go_wp2_with (go_at_call 25; go_fit (has_in _ b o S n HN.out hn1 hlt); rw [Hx.out]; rintro e w2 ⟨rfl, rfl⟩)
        go_roundw
        case rel => exact ⟨n + 1, J, by omega, by omega, rfl, HJ, HO.out, HB.out⟩
        case measure =>
          simp [intOf]
          omega
      · have Hx := Lib.hid hx
        rcases List.eq_nil_or_concat J with rfl | ⟨J0, p, rfl⟩
        · have HJ := Lib.hid (hJ.out.new hn1 hx (fun q hq => by cases hq))
          have HO := Lib.hid hown
          clear hJ hx hown
          go_wp2_with (first
            | (go_at_call 25; go_fit (has_in _ b o S n HN.out hn1 hlt); rw [Hx.out]; rintro e w2 ⟨rfl, rfl⟩)
            | (at_builtin; refine wpList_append_own _ rfl (.tmp 34) (.tmp 38) 58 rfl w.heap.size 62 i0 _ 2 16 Tryd.underlying58 hi0 hz0 hz1 hz2 rfl (by decide) _ _ _ rfl (HO.out.alloc _) ⟨wr.heap.size, 0, none⟩ 1 1 [.int .i64 n, .int .i64 n] rfl rfl (cells_new wr [.int .i64 n, .int .i64 n] 62 _ rfl) (rowJ_one _ _) (by unfold maxLen; simp) (by simp) hsz ?_; intro v' w3 hown' hgrow _))
          have hb3 := (below_al HB.out (Nat.le_refl _)).grown hgrow hsz (fun j hj => (HO.out.lt j hj).1)
          have HO3 := Lib.hid (own_new (J := []) rfl hown')
          clear hown' hgrow
          go_roundw
          case rel => exact ⟨n + 1, _, by omega, by omega, rfl, HJ, HO3.out, hb3⟩
          case measure =>
            simp [intOf]
            omega
        · obtain ⟨j, hj⟩ : ∃ j, J0.length = j := ⟨_, rfl⟩
          have hlen : (J0 ++ [p]).length = j + 1 := by rw [List.length_append, hj]; rfl
          rw [List.concat_eq_append] at hJ hown hjl ⊢
          rw [hlen] at hown hjl ⊢
          rcases own_form hown with ⟨h0, _⟩ | ⟨g, cg, e, hgw, hgl, hcg, hcell⟩
          · omega
          · injection e with e1 e2 e3
            subst e1
            subst e3
            have d1 : wr.cell? ⟨g, j * 2 + 1, none⟩ = some (.int .i64 (p.2 - 1)) := hcell _ _ (by rw [← hj]; exact (rowJ_at (J0 ++ [p]) J0.length p (by simp)).2)
            have f1 : wr.frozen? ⟨g, j * 2 + 1, none⟩ = false := hown.frozenAt (j * 2 + 1)
            have HO := Lib.hid hown
            have Hj := Lib.hid hj
            have Hlen := Lib.hid hlen
            by_cases hp : p.2 = n
            · have HJ := Lib.hid (hJ.out.join hx hp)
              have x1 : p.2 - 1 = n - 1 := by omega
              clear hJ hx hown hj hlen hcell hp
              go_wp2_with (go_at_call 25; go_fit (has_in _ b o S n HN.out hn1 hlt); rw [Hx.out]; rintro e w2 ⟨rfl, rfl⟩)
              have hst := (HO.out.stored (j * 2 + 1) (.int .i64 n)).1
              rw [← Hj.out, rowJ_last] at hst
              have hl2 : (J0 ++ [(p.1, n + 1)]).length = J0.length + 1 := by rw [List.length_append]; rfl
              rw [← hl2] at hst
              have HS := Lib.hid hst
              have HL2 := Lib.hid hl2
              clear hst hl2
              go_roundw
              case rel =>
                refine ⟨n + 1, J0 ++ [(p.1, n + 1)], by omega, by omega, rfl, HJ, ?_, HB.out.setCell (p := ⟨g, j * 2 + 1, none⟩) hgw _⟩
                rw [← Hj.out, ← HL2.out]
                exact HS.out
              case measure =>
                simp [intOf]
                omega
            · have HJ := Lib.hid (hJ.out.new hn1 hx (hJ.out.ne hp))
              have x1 : ¬ p.2 - 1 = n - 1 := by omega
              clear hJ hx hown hj hlen hcell hp
              go_wp2_with (first
                | (go_at_call 25; go_fit (has_in _ b o S n HN.out hn1 hlt); rw [Hx.out]; rintro e w2 ⟨rfl, rfl⟩)
                | (at_builtin; refine wpList_append_own _ rfl (.tmp 34) (.tmp 38) 58 rfl w.heap.size 62 i0 _ 2 16 Tryd.underlying58 hi0 hz0 hz1 hz2 rfl (by decide) _ _ _ rfl (HO.out.alloc _) ⟨wr.heap.size, 0, none⟩ 1 1 [.int .i64 n, .int .i64 n] rfl rfl (cells_new wr [.int .i64 n, .int .i64 n] 62 _ rfl) (rowJ_one _ _) (by unfold maxLen; omega) (by omega) hsz ?_; intro v' w3 hown' hgrow _))
              have hb3 := (below_al HB.out (Nat.le_refl _)).grown hgrow hsz (fun j hj => (HO.out.lt j hj).1)
              have HO3 := Lib.hid (own_new Hlen.out hown')
              clear hown' hgrow
              go_roundw
              case rel => exact ⟨n + 1, _, by omega, by omega, rfl, HJ, HO3.out, hb3⟩
              case measure =>
                simp [intOf]
                omega
    · have hkn : n = 121 := by omega
      subst hkn
      have HO := Lib.hid hown
      clear hown
      go_wp2
      go_ret
      exact ⟨_, J, rfl, hJ.out, HO.out, HB.out⟩
end Go.Proofs.YtiffjbpejlnndaaDoor
namespace Go.Proofs.YtiffjbpejlnndaaDoor
open Go.RowKit

def RunsP (w : World) (l : List Rng) (e : Ending) (w' : World) : Prop := ∃ v, e = .returned v ∧ w'.ownsRow w.heap.size 62 2 v l.length (rowJ l) ∧ Below w.heap.size w w'
theorem runs_any (w : World) (b o : Nat) (l : List Rng) (h : NumAt w b o (memB l)) (hf : Fine l) : Calls Tryd.prog 22 #[.pointer (some ⟨b, o, none⟩)] w (RunsP w l) := by
  refine (runs_inv w b o (memB l) h).mono ?_
  rintro e w' ⟨v, J, rfl, hJ, hown, hb⟩
  obtain rfl := hJ.done hf.1 hf.2
  exact ⟨v, rfl, hown, hb⟩
/-- A row of runs is read. -/
theorem rowJ_cells {w : World} {base : Nat} {v : Value} {l : List Rng} (h : w.ownsRow base 62 2 v l.length (rowJ l)) {k : Nat} {p : Rng} (hk : l[k]? = some p) :
    ∃ g c, v = .slice (some ⟨g, 0, none⟩) l.length c ∧ base ≤ g ∧ g < w.heap.size ∧ w.cell? ⟨g, k * 2, none⟩ = some (.int .i64 p.1) ∧ w.cell? ⟨g, k * 2 + 1, none⟩ = some (.int .i64 (p.2 - 1)) := by
  obtain ⟨h1, h2⟩ := rowJ_at l k p hk
  have := at_lt hk
  rcases own_form h with ⟨h0, _⟩ | ⟨g, c, e, hb, hg, _, hc⟩
  · omega
  · exact ⟨g, c, e, hb, hg, hc _ _ h1, hc _ _ h2⟩
theorem nearN_at {v : Rng} {l : List Rng} {k : Nat} {p : Rng} (h : l[k]? = some p) : nearN v (l.take (k + 1)) = nearN v (l.take k) + if near v p = true then 1 else 0 := by
  rw [take_at h, nearN_snoc]
set_option maxRecDepth 100000 in
set_option maxHeartbeats 1000000 in
theorem joins_any (w : World) (b o : Nat) (l : List Rng) (lo hi : Int) (h : NumAt w b o (memB l)) (hf : Fine l) (hlo : -1000 ≤ lo ∧ lo ≤ 1000) (hhi : -1000 ≤ hi ∧ hi ≤ 1000) {x : Bool} (hx : decide (nearN (lo, hi + 1) l ≤ 1) = x) :
    Calls Tryd.prog 83 #[.pointer (some ⟨b, o, none⟩), .int .i64 lo, .int .i64 hi] w (Saw w (.bool x)) := by
  have H := Lib.hid h
  have HF := Lib.hid hf
  have HX := Lib.hid hx
  have hfl := hf.len
  obtain ⟨n, hn⟩ : ∃ n, l.length = n := ⟨_, rfl⟩
  rw [hn] at hfl
  have Hn := Lib.hid hn
  clear h hf hx hn
  go_enter Tryd.func83, Tryd.ntmps83
  go_wp2_with (go_at_call 22; go_fit (runs_any _ b o l H.out HF.out); rintro e w2 ⟨v, rfl, hown, hb⟩; have HO := Lib.hid hown; have HB := Lib.hid hb; obtain ⟨A, c, rfl⟩ := own_slice hown; rw [Hn.out] at HO ⊢; clear hown hb)
  go_loopw [7, 13] (fun s7 s13 wr => ∃ k : Nat, k ≤ n ∧ s13 = .int .i64 (k : Int) ∧ s7 = .int .i64 (nearN (lo, hi + 1) (l.take k) : Nat) ∧ Below w2.heap.size w2 wr) (fun _ s13 _ => n - (intOf s13).toNat)
  case atStart => exact ⟨0, Nat.zero_le _, rfl, rfl, Below.refl _ _⟩
  case round =>
    obtain ⟨k, hk, rfl, rfl, hb⟩ := hrel
    obtain ⟨m, hm⟩ : ∃ m, nearN (lo, hi + 1) (l.take k) = m := ⟨_, rfl⟩
    have hml : m ≤ k := by
      rw [← hm]
      exact Nat.le_trans (nearN_le _ _) (by rw [List.length_take]; omega)
    rw [hm]
    have HBR := Lib.hid hb
    by_cases hlt : k < n
    · obtain ⟨p, hp⟩ : ∃ p, l[k]? = some p := ⟨l[k]'(by rw [Hn.out]; exact hlt), List.getElem?_eq_getElem _⟩
      have hsn := nearN_at (v := (lo, hi + 1)) hp
      rw [hm] at hsn
      have ho2 := HO.out
      rw [← Hn.out] at ho2
      obtain ⟨g, c', e, hgw, hgl, d1, d2⟩ := rowJ_cells ho2 hp
      injection e with e1 e2 e3
      subst e1
      have d1' := (hb.cell (p := ⟨g, k * 2, none⟩) hgl).trans d1
      have d2' := (hb.cell (p := ⟨g, k * 2 + 1, none⟩) hgl).trans d2
      have hbd := HF.out.bounds p (List.mem_of_getElem? hp)
      by_cases y1 : p.1 ≤ hi + 1
      · by_cases y2 : lo - 1 ≤ p.2 - 1
        · have hne : near (lo, hi + 1) p = true := by
            unfold near
            rw [decide_eq_true y1, decide_eq_true (show lo ≤ p.2 by omega)]
            rfl
          rw [if_pos hne] at hsn
          have HS := Lib.hid hsn
          clear hb hm hsn ho2 d1 d2 hp hne e2 e3
          go_wp2
          go_roundw
          case rel => exact ⟨k + 1, by omega, rfl, by rw [HS.out]; go_num, below_al HBR.out (Nat.le_refl _)⟩
          case measure =>
            simp [intOf]
            omega
        · have hne : ¬ near (lo, hi + 1) p = true := by
            unfold near
            rw [decide_eq_false (show ¬ lo ≤ p.2 by omega)]
            simp
          rw [if_neg hne] at hsn
          have HS := Lib.hid hsn
          clear hb hm hsn ho2 d1 d2 hp hne e2 e3
          go_wp2
          go_roundw
          case rel => exact ⟨k + 1, by omega, rfl, by rw [HS.out]; rfl, below_al HBR.out (Nat.le_refl _)⟩
          case measure =>
            simp [intOf]
            omega
      · have hne : ¬ near (lo, hi + 1) p = true := by
          unfold near
          rw [decide_eq_false (show ¬ p.1 ≤ hi + 1 from y1)]
          simp
        rw [if_neg hne] at hsn
        have HS := Lib.hid hsn
        clear hb hm hsn ho2 d1 d2 hp hne e2 e3
        go_wp2
        go_roundw
        case rel => exact ⟨k + 1, by omega, rfl, by rw [HS.out]; rfl, below_al HBR.out (Nat.le_refl _)⟩
        case measure =>
          simp [intOf]
          omega
    · have hkn : k = n := by omega
      subst hkn
      rw [List.take_of_length_le (by rw [Hn.out]; exact Nat.le_refl _)] at hm
      have HX2 := Lib.hid (show decide (m ≤ 1) = x by rw [← hm]; exact HX.out)
      have hbw := below_tr HB.out (Nat.le_refl _) hb
      clear hb hm
      go_wp2
      go_ret
      exact ⟨congrArg Ending.returned (congrArg Value.bool ((decide_eq_decide.2 (by omega)).trans HX2.out)), hbw⟩
end Go.Proofs.YtiffjbpejlnndaaDoor
namespace Go.Proofs.YtiffjbpejlnndaaDoor
open Go.RowKit

/-- The 564 marks of four sets. -/
def numCells (M : Nat → Int → Bool) : Array Value := ((List.range 564).map fun i : Nat => Value.bool (M (i / 141) (((i % 141 : Nat) : Int) - 20))).toArray
def numF (F : Nat → List Rng) : Array Value := numCells fun s u => memB (F s) u
theorem numCells_at (M : Nat → Int → Bool) {i : Nat} (h : i < 564) : (numCells M)[i]? = some (.bool (M (i / 141) (((i % 141 : Nat) : Int) - 20))) := by
  unfold numCells
  rw [List.getElem?_toArray, List.getElem?_map, List.getElem?_range h]
  rfl
theorem numCells_size (M : Nat → Int → Bool) : (numCells M).size = 564 := by
  unfold numCells
  simp
theorem numCells_one (M : Nat → Int → Bool) : (numCells M).all (·.oneCell') = true := by
  unfold numCells
  rw [Array.all_eq_true_iff_forall_mem]
  intro x hx
  simp at hx
  obtain ⟨i, _, rfl⟩ := hx
  rfl
theorem numCells_ext {M N : Nat → Int → Bool} (h : ∀ s u, s < 4 → -20 ≤ u → u ≤ 120 → M s u = N s u) : numCells M = numCells N := by
  unfold numCells
  refine congrArg List.toArray (List.map_congr_left fun i hi => ?_)
  rw [List.mem_range] at hi
  rw [h (i / 141) _ (by omega) (by omega) (by omega)]
/-- One mark is set. -/
theorem numCells_set {M N : Nat → Int → Bool} {s : Nat} {k : Int} (_hs : s < 4) (h1 : -20 ≤ k) (h2 : k ≤ 120) (hk : N s k = true) (hne : ∀ s' u, ¬ (s' = s ∧ u = k) → N s' u = M s' u) :
    (numCells M).setIfInBounds (s * 141 + (k + 20).toNat) (.bool true) = numCells N := by
  apply Array.ext_getElem?
  intro i
  by_cases hi : i < 564
  · rw [numCells_at N hi]
    by_cases e : s * 141 + (k + 20).toNat = i
    · subst e
      rw [Array.getElem?_setIfInBounds_self_of_lt (by rw [numCells_size]; exact hi)]
      have e1 : (s * 141 + (k + 20).toNat) / 141 = s := by omega
      have e2 : (((s * 141 + (k + 20).toNat) % 141 : Nat) : Int) - 20 = k := by omega
      rw [e1, e2, hk]
    · rw [Array.getElem?_setIfInBounds_ne e, numCells_at M hi]
      rw [hne]
      rintro ⟨a, b⟩
      omega
  · rw [Array.getElem?_eq_none (by rw [Array.size_setIfInBounds, numCells_size]; omega), Array.getElem?_eq_none (by rw [numCells_size]; omega)]
theorem numAt_blk {w : World} {b : Nat} {t : TypeId} {M : Nat → Int → Bool} (h : Blk w b t (numCells M)) {s : Nat} (hs : s < 4) : NumAt w b (s * 141) (M s) := by
  intro i hi
  rw [h.cell, numCells_at M (by omega)]
  have e1 : (s * 141 + i) / 141 = s := by omega
  have e2 : (s * 141 + i) % 141 = i := by omega
  rw [e1, e2]
/-- Behind some numbers of a range. -/
def fillM (F : Nat → List Rng) (s : Nat) (lo k : Int) : Nat → Int → Bool := fun s' u => if s' = s then memB (F s) u || (decide (lo ≤ u) && decide (u < k)) else memB (F s') u
theorem fillM_start (F : Nat → List Rng) (s : Nat) (lo : Int) : numCells (fillM F s lo lo) = numF F := by
  refine numCells_ext fun s' u _ _ _ => ?_
  unfold fillM
  by_cases e : s' = s
  · subst e
    rw [if_pos rfl]
    have : (decide (lo ≤ u) && decide (u < lo)) = false := by
      rw [Bool.and_eq_false_iff]
      by_cases h : lo ≤ u
      · exact .inr (decide_eq_false (by omega))
      · exact .inl (decide_eq_false h)
    rw [this, Bool.or_false]
  · rw [if_neg e]
theorem fillM_step (F : Nat → List Rng) {s : Nat} {lo k : Int} (hs : s < 4) (h0 : lo ≤ k) (h1 : -20 ≤ k) (h2 : k ≤ 120) :
    (numCells (fillM F s lo k)).setIfInBounds (s * 141 + (k + 20).toNat) (.bool true) = numCells (fillM F s lo (k + 1)) := by
  refine numCells_set hs h1 h2 ?_ fun s' u hne => ?_
  · unfold fillM
    rw [if_pos rfl, decide_eq_true h0, decide_eq_true (show k < k + 1 by omega)]
    simp
  · unfold fillM
    by_cases e : s' = s
    · subst e
      rw [if_pos rfl, if_pos rfl]
      have hu : u ≠ k := fun e => hne ⟨rfl, e⟩
      have : decide (u < k + 1) = decide (u < k) := decide_eq_decide.2 (by omega)
      rw [this]
    · rw [if_neg e, if_neg e]
theorem fillM_done {F : Nat → List Rng} {s : Nat} {lo hi : Int} {m : List Rng} (hF : AllOk F) (h : addP (F s) lo hi = some m) : numCells (fillM F s lo (hi + 1)) = numF (putF F s m) := by
  obtain ⟨_, _, hm⟩ := addP_ok (hF s).1 (hF s).2 h
  refine numCells_ext fun s' u _ _ _ => ?_
  unfold fillM
  by_cases e : s' = s
  · subst e
    rw [if_pos rfl, putF_self, Bool.eq_iff_iff, memB_iff, hm u, Bool.or_eq_true, memB_iff, Bool.and_eq_true, decide_eq_true_iff, decide_eq_true_iff]
    constructor
    · rintro (h | h)
      · exact .inl h
      · exact .inr ⟨h.1, by omega⟩
    · rintro (h | h)
      · exact .inl h
      · exact .inr ⟨h.1, by omega⟩
  · rw [if_neg e, putF_ne F m e]
def nextF (F : Nat → List Rng) (s : Nat) : Option (List Rng) → Nat → List Rng
  | some m => putF F s m
  | none => F
def NumPost (w : World) (b : Nat) (F : Nat → List Rng) (s : Nat) (r : Option (List Rng)) (e : Ending) (w' : World) : Prop :=
  e = .returned (.bool r.isSome) ∧ w.grownBy w' (some b) ∧ Blk w' b 54 (numF (nextF F s r))
theorem addN_no (w : World) (b : Nat) (F : Nat → List Rng) (s : Nat) (lo hi : Int) (h : Blk w b 54 (numF F)) (hno : lo < -20 ∨ 120 < hi ∨ hi < lo) :
    Calls Tryd.prog 49 #[.pointer (some ⟨b, s * 141, none⟩), .int .i64 lo, .int .i64 hi] w (NumPost w b F s (addP (F s) lo hi)) := by
  have hr : addP (F s) lo hi = none := by
    unfold addP
    rw [if_neg (by omega)]
  rw [hr]
  have H := Lib.hid h
  clear h hr
  by_cases h1 : lo < -20
  · clear hno
    go_enter Tryd.func49, Tryd.ntmps49
    go_wp2
    go_ret
    exact ⟨rfl, only_refl _ _, H.out⟩
  · by_cases h2 : 120 < hi
    · clear hno
      go_enter Tryd.func49, Tryd.ntmps49
      go_wp2
      go_ret
      exact ⟨rfl, only_refl _ _, H.out⟩
    · have h3 : hi < lo := by omega
      clear hno
      go_enter Tryd.func49, Tryd.ntmps49
      go_wp2
      go_ret
      exact ⟨rfl, only_refl _ _, H.out⟩
set_option maxRecDepth 100000 in
set_option maxHeartbeats 1000000 in
theorem addN_any (w : World) (b : Nat) (F : Nat → List Rng) (s : Nat) (lo hi : Int) (h : Blk w b 54 (numF F)) (hs : s < 4) (hF : AllOk F) :
    Calls Tryd.prog 49 #[.pointer (some ⟨b, s * 141, none⟩), .int .i64 lo, .int .i64 hi] w (NumPost w b F s (addP (F s) lo hi)) := by
  by_cases hno : lo < -20 ∨ 120 < hi ∨ hi < lo
  · exact addN_no w b F s lo hi h hno
  · have h1 : -20 ≤ lo := by omega
    have h2 : hi ≤ 120 := by omega
    have h3 : lo ≤ hi := by omega
    have g1 : ¬ lo < -20 := by omega
    have g2 : ¬ 120 < hi := by omega
    have g3 : ¬ hi < lo := by omega
    clear hno
    by_cases hn : nearN (lo, hi + 1) (F s) ≤ 1
    · obtain ⟨m, hm⟩ : ∃ m, addP (F s) lo hi = some m := ⟨_, by unfold addP; exact if_pos ⟨h1, h2, h3, hn⟩⟩
      rw [hm]
      have hj := joins_any w b (s * 141) (F s) lo hi (numAt_blk h hs) (hF s) (by omega) (by omega) (decide_eq_true hn)
      have HD := Lib.hid (fillM_done hF hm)
      have HJ := Lib.hid hj
      have H := Lib.hid h
      clear hj hm h hn
      go_enter Tryd.func49, Tryd.ntmps49
      go_wp2_with (go_at_call 83; go_fit HJ.out; rintro e w2 ⟨rfl, hb⟩; have HB := Lib.hid hb; clear hb)
      go_loopw [7] (fun s7 wr => ∃ k : Int, lo ≤ k ∧ k ≤ hi + 1 ∧ s7 = .int .i64 k ∧ Blk wr b 54 (numCells (fillM F s lo k)) ∧ w.grownBy wr (some b)) (fun s7 _ => (hi + 1 - intOf s7).toNat)
      case atStart => exact ⟨lo, Int.le_refl _, by omega, rfl, by rw [fillM_start]; exact H.out.below HB.out H.out.lt, only_of_below HB.out _⟩
      case round =>
        obtain ⟨k, hk1, hk2, rfl, hblk, hgr⟩ := hrel
        have HG := Lib.hid hgr
        by_cases hlt : k ≤ hi
        · have hset := hblk.set_ (s * 141 + (k + 20).toNat) (.bool true)
          rw [fillM_step F hs hk1 (by omega) (by omega)] at hset
          have c1 := hblk.cell (s * 141 + (k + 20).toNat)
          rw [numCells_at _ (by omega)] at c1
          have f1 := hblk.frozen (s * 141 + (k + 20).toNat)
          have h4 : 0 ≤ k + 20 := by omega
          have h5 : k + 20 < 141 := by omega
          have h6 : (k + 20).toNat < 141 := by omega
          generalize Value.bool (fillM F s lo k ((s * 141 + (k + 20).toNat) / 141) (((s * 141 + (k + 20).toNat) % 141 : Nat) - 20)) = old at c1
          have HS := Lib.hid hset
          clear hset hblk hgr
          go_wp2
          go_roundw
          case rel => exact ⟨k + 1, by omega, by omega, rfl, HS.out, only_setCell HG.out (.inl rfl) _⟩
          case measure =>
            simp [intOf]
            omega
        · obtain rfl : k = hi + 1 := by omega
          rw [HD.out] at hblk
          have HBK := Lib.hid hblk
          clear hblk hgr
          go_wp2
          go_ret
          exact ⟨rfl, HG.out, HBK.out⟩
    · have hr : addP (F s) lo hi = none := by
        unfold addP
        exact if_neg fun hh => hn hh.2.2.2
      rw [hr]
      have hj := joins_any w b (s * 141) (F s) lo hi (numAt_blk h hs) (hF s) (by omega) (by omega) (decide_eq_false hn)
      have HJ := Lib.hid hj
      have H := Lib.hid h
      clear hj hr h hn
      go_enter Tryd.func49, Tryd.ntmps49
      go_wp2_with (go_at_call 83; go_fit HJ.out; rintro e w2 ⟨rfl, hb⟩; have HB := Lib.hid hb; clear hb)
      go_ret
      exact ⟨rfl, only_of_below HB.out _, H.out.below HB.out H.out.lt⟩
end Go.Proofs.YtiffjbpejlnndaaDoor
