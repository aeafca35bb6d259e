/-
  The specification's steps over four sets of numbers. Conditions: none beyond the steps as they come in.
-/
import Derived.Test.YtiffjbpejlnndaaDoorNum4
namespace Go.Proofs.YtiffjbpejlnndaaDoor
open Go.RowKit

def SetsPost (w : World) (l : List Stp) (e : Ending) (w' : World) : Prop :=
  ∃ F r, e = .returned (.tuple #[.agg (numF F), .bool r]) ∧ r = (stepsP F0 l).isSome ∧ (∀ G, stepsP F0 l = some G → F = G) ∧ Below w.heap.size w w'
/-- What a round of the steps wants. -/
structure SD (w : World) (b : Nat) (F : Nat → List Rng) (W : World) : Prop where
  blk : Blk W b 54 (numF F)
  below : Below w.heap.size w W
  ge : w.heap.size ≤ b
theorem SD.alloc {w W : World} {b : Nat} {F : Nat → List Rng} (h : SD w b F W) (o : Obj) : SD w b F (W.alloc o) := ⟨h.blk.alloc o, below_al h.below (Nat.le_refl _), h.ge⟩
theorem SD.num {w W W' : World} {b s : Nat} {F : Nat → List Rng} {r : Option (List Rng)} (h : SD w b F W) (hg : W.grownBy W' (some b)) (hb : Blk W' b 54 (numF (nextF F s r))) : SD w b (nextF F s r) W' :=
  ⟨hb, h.below.grown hg h.below.size (fun j hj => by injection hj with hj; rw [← hj]; exact h.ge), h.ge⟩
theorem sets_ret {w W : World} {b : Nat} {l : List Stp} {F : Nat → List Rng} {r : Bool} (h : SD w b F W) (hr : r = (stepsP F0 l).isSome) (hF : ∀ G, stepsP F0 l = some G → F = G) {a : Act} (hp : a.tmps.getD 2 undef = .pointer (some ⟨b, 0, none⟩)) (hq : a.tmps.getD 3 undef = .bool r) (hd : a.defers = []) :
    bodyPost Tryd.prog Tryd.f29 (SetsPost w l) Exit.ret a W := by
  refine bodyPost_ret (results_c1t1 rfl _ _ b 54 (numF F) _ hp h.blk Tryd.underlying54 rfl (by show _ = some (numCells _).size; rw [numCells_size]; exact zero54.2)) hd ?_
  rw [hq]
  exact ⟨F, r, rfl, hr, hF, h.below⟩
set_option maxRecDepth 100000 in
set_option maxHeartbeats 4000000 in
theorem setsDo_any (w : World) (U : Nat) (A : Option Addr) (c : Nat) (l : List Stp) (h : StepsAt w U A l) (hU : U ≤ w.heap.size) (hn : l.length ≤ 2147483647) :
    Calls Tryd.prog 29 #[.slice A l.length c] w (SetsPost w l) := by
  have H := Lib.hid h
  have hz := zero54.1
  obtain ⟨n, hnn⟩ : ∃ n, l.length = n := ⟨_, rfl⟩
  rw [hnn] at hn ⊢
  have Hn := Lib.hid hnn
  clear h hnn
  go_enter Tryd.func29, Tryd.ntmps29
  go_wp2
  clear hz
  have hsd0 : SD w w.heap.size F0 (w.alloc (.cells (numF F0) 54)) := ⟨Blk.new _ _ _, below_box _ _, Nat.le_refl _⟩
  generalize (w.alloc (.cells (numF F0) 54)) = w0 at hsd0 ⊢
  generalize hb0 : w.heap.size = b at hsd0 ⊢
  have Hb0 := Lib.hid hb0
  have HS0 := Lib.hid hsd0
  clear hsd0 hb0
  go_loopw [11] (fun s11 wr => ∃ (k : Nat) (F : Nat → List Rng), k ≤ n ∧ s11 = .int .i64 (k : Int) ∧ Hid (stepsP F0 (l.take k) = some F) ∧ SD w b F wr) (fun s11 _ => n - (intOf s11).toNat)
  case atStart => exact ⟨0, F0, Nat.zero_le _, rfl, rfl, HS0.out⟩
  case round =>
    obtain ⟨k, F, hk, rfl, hF, hsd⟩ := hrel
    have HS := Lib.hid hsd
    by_cases hlt : k < n
    · obtain ⟨s, hs⟩ : ∃ s, l[k]? = some s := ⟨l[k]'(by rw [Hn.out]; exact hlt), List.getElem?_eq_getElem _⟩
      obtain ⟨ad, rfl, had, d0, d1, d2, d3⟩ := (H.out.below hsd.below hU).at_ hs
      obtain ⟨op, st, sa, sb⟩ := s
      have Hs := Lib.hid hs
      clear hs hsd
      go_upto_region 4 with fail
      have hsd1 := HS.out.alloc (P70 ⟨op, st, sa, sb⟩)
      have hz : Blk (wr.alloc (P70 ⟨op, st, sa, sb⟩)) wr.heap.size 70 #[.int .u8 (op : Int), .int .i64 st, .int .i64 sa, .int .i64 sb] := Blk.new _ _ _
      generalize (wr.alloc (.cells #[.int .u8 (op : Int), .int .i64 st, .int .i64 sa, .int .i64 sb] 70)) = w1 at hsd1 hz ⊢
      generalize wr.heap.size = zb at hz ⊢
      clear d0 d1 d2 d3 had HS
      have z0 : w1.cell? ⟨zb, 0, none⟩ = some (.int .u8 (op : Int)) := hz.cell 0
      have z1 : w1.cell? ⟨zb, 1, none⟩ = some (.int .i64 st) := hz.cell 1
      have z2 : w1.cell? ⟨zb, 2, none⟩ = some (.int .i64 sa) := hz.cell 2
      have z3 : w1.cell? ⟨zb, 3, none⟩ = some (.int .i64 sb) := hz.cell 3
      have HS1 := Lib.hid hsd1
      have HZ := Lib.hid hz
      have HAO := Lib.hid (stepsP_ok (l.take k) allOk_F0 hF.out)
      clear hsd1 hz
      by_cases b1 : st < 0
      · have hnone := Lib.hid (steps_none Hs.out hF.out (stepP_bad (.inl b1)))
        clear hF
        go_wp2_with (first | (refine wpList_load54 rfl _ rfl b (fun s u => memB (F s) u) rfl HS1.out.blk ?_) | (refine wpList_store54 rfl _ _ rfl b (fun s u => memB (F s) u) rfl rfl HS1.out.blk ?_))
        (try simp only [Exit.inBlock, Exit.then])
        exact sets_ret HS1.out (by rw [hnone.out]; rfl) (fun G hG => by rw [hnone.out] at hG; cases hG) rfl rfl rfl
      · by_cases b2 : 3 < st
        · have hnone := Lib.hid (steps_none Hs.out hF.out (stepP_bad (.inr (.inl b2))))
          clear hF
          go_wp2_with (first | (refine wpList_load54 rfl _ rfl b (fun s u => memB (F s) u) rfl HS1.out.blk ?_) | (refine wpList_store54 rfl _ _ rfl b (fun s u => memB (F s) u) rfl rfl HS1.out.blk ?_))
          (try simp only [Exit.inBlock, Exit.then])
          exact sets_ret HS1.out (by rw [hnone.out]; rfl) (fun G hG => by rw [hnone.out] at hG; cases hG) rfl rfl rfl
        · by_cases b3 : 2 < op
          · have b3' : (2 : Int) < (op : Int) := by omega
            have hnone := Lib.hid (steps_none Hs.out hF.out (stepP_bad (.inr (.inr b3))))
            clear hF
            go_wp2_with (first | (refine wpList_load54 rfl _ rfl b (fun s u => memB (F s) u) rfl HS1.out.blk ?_) | (refine wpList_store54 rfl _ _ rfl b (fun s u => memB (F s) u) rfl rfl HS1.out.blk ?_))
            (try simp only [Exit.inBlock, Exit.then])
            exact sets_ret HS1.out (by rw [hnone.out]; rfl) (fun G hG => by rw [hnone.out] at hG; cases hG) rfl rfl rfl
          · obtain ⟨si, rfl⟩ := Int.eq_ofNat_of_zero_le (show 0 ≤ st by omega)
            have hsi : si < 4 := by omega
            have b1' : ¬ ((si : Int) < 0) := b1
            have ho : op = 0 ∨ op = 1 ∨ op = 2 := by omega
            clear b3
            rcases ho with rfl | rfl | rfl
            · obtain ⟨r, hr⟩ : ∃ r, addP (F si) sa sa = r := ⟨_, rfl⟩
              have hx := addN_any w1 b F si sa sa HS1.out.blk hsi HAO.out
              rw [hr] at hx
              have HX := Lib.hid hx
              have hst := (stepP_one hsi : stepP F ⟨0, (si : Int), sa, sb⟩ = _)
              rw [hr] at hst
              have Hst := Lib.hid hst
              clear hx hr hst
              cases r with
              | none =>
                have hnone := Lib.hid (steps_none Hs.out hF.out Hst.out)
                clear hF
                go_wp2_with (first
                  | (go_at_call 49; go_fit HX.out; rintro e w2 ⟨rfl, hg, hb⟩; have HS2 := Lib.hid (show SD w b F w2 from HS1.out.num (r := none) (s := si) hg hb); clear hg hb)
                  | (refine wpList_load54 rfl _ rfl b (fun s u => memB (F s) u) rfl HS2.out.blk ?_) | (refine wpList_store54 rfl _ _ rfl b (fun s u => memB (F s) u) rfl rfl HS2.out.blk ?_))
                (try simp only [Exit.inBlock, Exit.then])
                exact sets_ret HS2.out (by rw [hnone.out]; rfl) (fun G hG => by rw [hnone.out] at hG; cases hG) rfl rfl rfl
              | some m =>
                have HF2 := Lib.hid ((stepsP_take Hs.out hF.out).trans Hst.out)
                clear hF
                go_wp2_with (go_at_call 49; go_fit HX.out; rintro e w2 ⟨rfl, hg, hb⟩; have HS2 := Lib.hid (show SD w b (putF F si m) w2 from HS1.out.num (r := some m) (s := si) hg hb); clear hg hb)
                go_roundw
                case rel => exact ⟨k + 1, putF F si m, by omega, rfl, HF2, HS2.out⟩
                case measure =>
                  simp [intOf]
                  omega
            · obtain ⟨r, hr⟩ : ∃ r, addP (F si) sa sb = r := ⟨_, rfl⟩
              have hx := addN_any w1 b F si sa sb HS1.out.blk hsi HAO.out
              rw [hr] at hx
              have HX := Lib.hid hx
              have hst := (stepP_range hsi : stepP F ⟨1, (si : Int), sa, sb⟩ = _)
              rw [hr] at hst
              have Hst := Lib.hid hst
              clear hx hr hst
              cases r with
              | none =>
                have hnone := Lib.hid (steps_none Hs.out hF.out Hst.out)
                clear hF
                go_wp2_with (first
                  | (go_at_call 49; go_fit HX.out; rintro e w2 ⟨rfl, hg, hb⟩; have HS2 := Lib.hid (show SD w b F w2 from HS1.out.num (r := none) (s := si) hg hb); clear hg hb)
                  | (refine wpList_load54 rfl _ rfl b (fun s u => memB (F s) u) rfl HS2.out.blk ?_) | (refine wpList_store54 rfl _ _ rfl b (fun s u => memB (F s) u) rfl rfl HS2.out.blk ?_))
                (try simp only [Exit.inBlock, Exit.then])
                exact sets_ret HS2.out (by rw [hnone.out]; rfl) (fun G hG => by rw [hnone.out] at hG; cases hG) rfl rfl rfl
              | some m =>
                have HF2 := Lib.hid ((stepsP_take Hs.out hF.out).trans Hst.out)
                clear hF
                go_wp2_with (go_at_call 49; go_fit HX.out; rintro e w2 ⟨rfl, hg, hb⟩; have HS2 := Lib.hid (show SD w b (putF F si m) w2 from HS1.out.num (r := some m) (s := si) hg hb); clear hg hb)
                go_roundw
                case rel => exact ⟨k + 1, putF F si m, by omega, rfl, HF2, HS2.out⟩
                case measure =>
                  simp [intOf]
                  omega
            · by_cases y1 : sa < 0
              · have hnone := Lib.hid (steps_none Hs.out hF.out (stepP_two_bad hsi (.inl y1)))
                clear hF
                go_wp2_with (first | (refine wpList_load54 rfl _ rfl b (fun s u => memB (F s) u) rfl HS1.out.blk ?_) | (refine wpList_store54 rfl _ _ rfl b (fun s u => memB (F s) u) rfl rfl HS1.out.blk ?_))
                (try simp only [Exit.inBlock, Exit.then])
                exact sets_ret HS1.out (by rw [hnone.out]; rfl) (fun G hG => by rw [hnone.out] at hG; cases hG) rfl rfl rfl
              · by_cases y2 : 3 < sa
                · have hnone := Lib.hid (steps_none Hs.out hF.out (stepP_two_bad hsi (.inr (.inl y2))))
                  clear hF
                  go_wp2_with (first | (refine wpList_load54 rfl _ rfl b (fun s u => memB (F s) u) rfl HS1.out.blk ?_) | (refine wpList_store54 rfl _ _ rfl b (fun s u => memB (F s) u) rfl rfl HS1.out.blk ?_))
                  (try simp only [Exit.inBlock, Exit.then])
                  exact sets_ret HS1.out (by rw [hnone.out]; rfl) (fun G hG => by rw [hnone.out] at hG; cases hG) rfl rfl rfl
                · obtain ⟨ai, rfl⟩ := Int.eq_ofNat_of_zero_le (show 0 ≤ sa by omega)
                  have hai : ai < 4 := by omega
                  have y1' : ¬ ((ai : Int) < 0) := y1
                  by_cases y3 : ai = si
                  · have hnone := Lib.hid (steps_none Hs.out hF.out (stepP_two_bad hsi (.inr (.inr (by omega)))))
                    clear hF
                    go_wp2_with (first | (refine wpList_load54 rfl _ rfl b (fun s u => memB (F s) u) rfl HS1.out.blk ?_) | (refine wpList_store54 rfl _ _ rfl b (fun s u => memB (F s) u) rfl rfl HS1.out.blk ?_))
                    (try simp only [Exit.inBlock, Exit.then])
                    exact sets_ret HS1.out (by rw [hnone.out]; rfl) (fun G hG => by rw [hnone.out] at hG; cases hG) rfl rfl rfl
                  · have y3' : ¬ (ai : Int) = (si : Int) := by omega
                    obtain ⟨n2, hn2⟩ : ∃ n2, (F ai).length = n2 := ⟨_, rfl⟩
                    have hfl := Fine.len (HAO.out ai)
                    rw [hn2] at hfl
                    have Hn2 := Lib.hid hn2
                    have Hst := Lib.hid (stepP_two (F := F) (b := sb) hsi hai y3)
                    clear hn2
                    go_wp2_with (go_at_call 22; go_fit (runs_any _ b (ai * 141) (F ai) (numAt_blk (M := fun s u => memB (F s) u) HS1.out.blk hai) (HAO.out ai)); rintro e w2 ⟨v, rfl, hown, hb⟩; have HO := Lib.hid hown; have HS2 := Lib.hid (show SD w b F w2 from ⟨HS1.out.blk.below hb HS1.out.blk.lt, below_tr HS1.out.below (Nat.le_refl _) hb, HS1.out.ge⟩); have HBL := Lib.hid (show b < w1.heap.size from HS1.out.blk.lt); obtain ⟨Av, cv, rfl⟩ := own_slice hown; rw [Hn2.out] at HO ⊢; clear hown hb)
                    go_loopw [55] (fun s55 wq => ∃ (j : Nat) (x : List Rng), j ≤ n2 ∧ s55 = .int .i64 (j : Int) ∧ Hid (addAll (F si) ((F ai).take j) = some x) ∧ SD w b (putF F si x) wq ∧ w2.grownBy wq (some b)) (fun s55 _ => n2 - (intOf s55).toNat)
                    case atStart => exact ⟨0, F si, Nat.zero_le _, rfl, rfl, by rw [putF_id]; exact HS2.out, only_refl _ _⟩
                    case round =>
                      obtain ⟨j, x, hj, rfl, hx, hsq, hgq⟩ := hrel
                      have HSQ := Lib.hid hsq
                      have HGQ := Lib.hid hgq
                      by_cases hjl : j < n2
                      · obtain ⟨p, hp⟩ : ∃ p, (F ai)[j]? = some p := ⟨(F ai)[j]'(by rw [Hn2.out]; exact hjl), List.getElem?_eq_getElem _⟩
                        have ho2 := HO.out
                        rw [← Hn2.out] at ho2
                        obtain ⟨g, c', e, hgw, hgl, d1, d2⟩ := rowJ_cells ho2 hp
                        injection e with e1 e2 e3
                        subst e1
                        have hgb : some g ≠ some b := fun e => by
                          injection e with e
                          have := HBL.out
                          omega
                        have d1' : wr.cell? ⟨g, j * 2, none⟩ = some (.int .i64 p.1) := (World.cell?_of_block (hgq.block g hgl hgb)).trans d1
                        have d2' : wr.cell? ⟨g, j * 2 + 1, none⟩ = some (.int .i64 (p.2 - 1)) := (World.cell?_of_block (hgq.block g hgl hgb)).trans d2
                        have HSA := Lib.hid (hsq.alloc (.cells #[.int .i64 p.1, .int .i64 (p.2 - 1)] 62))
                        have hxok := addAll_ok ((F ai).take j) (F si) (HAO.out si).1 (HAO.out si).2 hx.out
                        obtain ⟨r, hr⟩ : ∃ r, addP x p.1 (p.2 - 1) = r := ⟨_, rfl⟩
                        have hcall := addN_any (wr.alloc (.cells #[.int .i64 p.1, .int .i64 (p.2 - 1)] 62)) b (putF F si x) si p.1 (p.2 - 1) HSA.out.blk hsi (allOk_putF HAO.out si hxok.1 hxok.2.1)
                        rw [putF_self, hr] at hcall
                        have HC := Lib.hid hcall
                        have Hp := Lib.hid hp
                        have Hr := Lib.hid hr
                        have Hx := Lib.hid hx.out
                        clear hx hsq hgq hp ho2 e2 e3 d1 d2 hgb hxok hr hcall
                        cases r with
                        | none =>
                          have hal := addAll_none Hx.out Hp.out Hr.out
                          have hst := Hst.out
                          rw [hal] at hst
                          have hnone := Lib.hid (steps_none Hs.out hF.out hst)
                          clear hF hal hst
                          go_wp2_with (first
                            | (go_at_call 49; go_fit HC.out; rintro e w3 ⟨rfl, hg, hb⟩; have HS3 := Lib.hid (show SD w b (putF F si x) w3 from HSA.out.num (r := none) (s := si) hg hb); clear hg hb)
                            | (refine wpList_load54 rfl _ rfl b (fun s u => memB ((putF F si x) s) u) rfl HS3.out.blk ?_) | (refine wpList_store54 rfl _ _ rfl b (fun s u => memB ((putF F si x) s) u) rfl rfl HS3.out.blk ?_))
                          (try simp only [Exit.inBlock, Exit.then])
                          exact sets_ret HS3.out (by rw [hnone.out]; rfl) (fun G hG => by rw [hnone.out] at hG; cases hG) rfl rfl rfl
                        | some y =>
                          have HX2 := Lib.hid (addAll_some Hx.out Hp.out Hr.out)
                          go_wp2_with (go_at_call 49; go_fit HC.out; rintro e w3 ⟨rfl, hg, hb⟩; have HS3 := Lib.hid (show SD w b (putF F si y) w3 from by rw [← putF_putF F si x y]; exact HSA.out.num (r := some y) (s := si) hg hb); have HG3 := Lib.hid (show w2.grownBy w3 (some b) from only_trans (only_alloc HGQ.out _) hg); clear hg hb)
                          go_roundw
                          case rel => exact ⟨j + 1, y, by omega, rfl, HX2, HS3.out, HG3.out⟩
                          case measure =>
                            simp [intOf]
                            omega
                      · have hjn : j = n2 := by omega
                        subst hjn
                        have hal := hx.out
                        rw [List.take_of_length_le (by rw [Hn2.out]; exact Nat.le_refl _)] at hal
                        have hst := Hst.out
                        rw [hal] at hst
                        have HF2 := Lib.hid ((stepsP_take Hs.out hF.out).trans hst)
                        clear hF hal hst hx hsq hgq
                        go_wp2
                        go_roundw
                        case rel => exact ⟨k + 1, putF F si x, by omega, rfl, HF2, HSQ.out⟩
                        case measure =>
                          simp [intOf]
                          omega
    · have hkn : k = n := by omega
      subst hkn
      have hall := hF.out
      rw [List.take_of_length_le (by rw [Hn.out]; exact Nat.le_refl _)] at hall
      have HA := Lib.hid hall
      clear hall hF hsd
      go_wp2_with (first | (refine wpList_load54 rfl _ rfl b (fun s u => memB (F s) u) rfl HS.out.blk ?_) | (refine wpList_store54 rfl _ _ rfl b (fun s u => memB (F s) u) rfl rfl HS.out.blk ?_))
      (try simp only [Exit.inBlock, Exit.then])
      exact sets_ret HS.out (by rw [HA.out]; rfl) (fun G hG => by rw [HA.out] at hG; injection hG) rfl rfl rfl
end Go.Proofs.YtiffjbpejlnndaaDoor
