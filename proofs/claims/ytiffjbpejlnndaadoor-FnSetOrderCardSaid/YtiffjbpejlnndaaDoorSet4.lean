/-
  laws.FnSetAdd answers true. Conditions: steps as they come in; the library's tables as they are laid.
-/
import Derived.Test.YtiffjbpejlnndaaDoorSet2
import Derived.Test.YtiffjbpejlnndaaDoorSet3
namespace Go.Proofs.YtiffjbpejlnndaaDoor
open Go.RowKit

theorem rowV_blk (X : World) (g : Nat) (t : TypeId) (xs : List Value) (hg : X.heap.size = g) : RowV (X.alloc (.cells xs.toArray t)) (some ⟨g, 0, none⟩) xs := by
  subst hg
  exact RowV.of_blk (Blk.new _ t _)
theorem memB_out {l : List Rng} (hb : InR l) {n : Int} (h : n < -20 ∨ 120 < n) : memB l n = false := by
  cases hm : memB l n
  · rfl
  · obtain ⟨p, hp, h1⟩ := (memB_iff l n).1 hm
    have := hb p hp
    omega
theorem has_all (w : World) (b o : Nat) (l : List Rng) (n : Int) (h : NumAt w b o (memB l)) (hf : Fine l) : Calls Tryd.prog 25 #[.pointer (some ⟨b, o, none⟩), .int .i64 n] w fun e w' => e = .returned (.bool (memB l n)) ∧ w = w' := by
  by_cases h1 : n < -20 ∨ 120 < n
  · rw [memB_out hf.2 h1]
    exact has_out w b o n h1
  · exact has_in w b o (memB l) n h (by omega) (by omega)
theorem count_fine (w : World) (b o : Nat) (l : List Rng) (h : NumAt w b o (memB l)) (hf : Fine l) : Calls Tryd.prog 24 #[.pointer (some ⟨b, o, none⟩)] w fun e w' => e = .returned (.int .i64 (lenR l)) ∧ w = w' := by
  have := count_any w b o (memB l) h
  rw [cnt_len l hf.1 hf.2] at this
  exact this
def DoneU (w : World) (l : List Stp) (ops : List Nat) (e : Ending) (w' : World) : Prop :=
  ∃ F tv x ok, e = .returned (.tuple #[tv, .agg (numF F), .bool x, .bool ok]) ∧ Below w.heap.size w w' ∧ (ok = true → stepsP F0 l = some F ∧ l.length ≤ 60 ∧ okOps ops l = true ∧ Told w F (asksL 145) 4 tv w')
theorem DonePost.uni {w w' : World} {l : List Stp} {ops : List Nat} {e : Ending} (h : DonePost w l ops e w') : DoneU w l ops e w' := by
  obtain ⟨hb, ⟨F, he⟩ | ⟨G, tv, x, h1, h2, h3, he, h4⟩⟩ := h
  · exact ⟨F, _, _, _, he, hb, fun h => by cases h⟩
  · exact ⟨G, tv, x, true, he, hb, fun _ => ⟨h1, h2, h3, h4⟩⟩
theorem add_big (w : World) (A : Option Addr) (c n : Nat) (hn : 2147483647 < n) : Calls Tryd.prog 7 #[.slice A n c] w (Saw w (.bool true)) := by
  go_enter Tryd.func7, Tryd.ntmps7
  go_wp2
  go_ret
  exact ⟨rfl, Below.refl _ _⟩
set_option maxRecDepth 100000 in
set_option maxHeartbeats 4000000 in
theorem add_any7 (w : World) (U : Nat) (A : Option Addr) (c : Nat) (l : List Stp) (h : StepsAt w U A l) (hU : U ≤ w.heap.size) (hn : l.length ≤ 2147483647) (hT : Tabs w) :
    Calls Tryd.prog 7 #[.slice A l.length c] w (Saw w (.bool true)) := by
  have H := Lib.hid h
  have HT := Lib.hid hT
  have hz := zero54.1
  obtain ⟨n, hnn⟩ : ∃ n, l.length = n := ⟨_, rfl⟩
  rw [hnn] at hn ⊢
  have Hn := Lib.hid hnn
  have hd := done_any (w.alloc (.cells #[.int .u8 0, .int .u8 1, .int .u8 2] 5)) U A (some ⟨w.heap.size, 0, none⟩) c 3 l [0, 1, 2] (h.below (below_box w _) hU) (rowV_blk w _ 5 (opsV [0, 1, 2]) rfl) (size_alloc1 _ hU) (by rw [hnn]; exact hn) (by decide) (hT.below (below_box w _))
  rw [hnn] at hd
  have HD := Lib.hid hd
  clear h hT hnn hd
  go_enter Tryd.func7, Tryd.ntmps7
  go_upto_region 4 with (first
    | (go_at_call 19; go_fit (HD.out.mono fun _ _ h => h.uni); rintro e w1 ⟨F, tv, x, ok, rfl, hb1, hok⟩; have HB1 := Lib.hid (below_tr (below_box w _) (Nat.le_refl _) hb1); have HOK := Lib.hid hok; have HKN : Hid (Blk (w1.alloc (.cells (numF F0) 54)) w1.heap.size 54 (numF F0)) := Blk.new _ _ _; clear hb1 hok)
    | (refine wpList_put54 rfl _ _ rfl w1.heap.size (fun s u => memB (F0 s) u) (fun s u => memB (F s) u) rfl rfl HKN.out ?_))
  have hk2 : Blk ((w1.alloc (.cells (numF F0) 54)).setRow w1.heap.size (numCells fun s u => memB (F s) u)) w1.heap.size 54 (numF F) := HKN.out.row
  have hw2 : Below w1.heap.size w1 ((w1.alloc (.cells (numF F0) 54)).setRow w1.heap.size (numCells fun s u => memB (F s) u)) :=
    (below_box w1 _).grown (only_setRow _ _ _) (below_box w1 _).size (fun j hj => by injection hj with hj; rw [← hj]; exact Nat.le_refl _)
  generalize ((w1.alloc (.cells (numF F0) 54)).setRow w1.heap.size (numCells fun s u => memB (F s) u)) = w2 at hk2 hw2 ⊢
  have hb2 := below_tr HB1.out (Nat.le_refl _) hw2
  have HB2 := Lib.hid hb2
  have HW2 := Lib.hid hw2
  generalize w1.heap.size = b at hk2 ⊢
  have HK2 := Lib.hid hk2
  clear hk2 hw2 hb2
  cases ok with
  | false =>
    go_wp2_with (go_at_call 20; go_fit (setAwake_yes _ (HT.out.below HB2.out)); rintro e w3 ⟨rfl, hb3⟩; have HB3 := Lib.hid (below_tr HB2.out (Nat.le_refl _) hb3); clear hb3)
    go_ret
    exact ⟨rfl, HB3.out⟩
  | true =>
    obtain ⟨hG, h60, hops, htd⟩ := HOK.out rfl
    obtain ⟨g, ct, hs, rs, rfl, hta⟩ := (htd.keep HW2.out).at_
    have HAO := Lib.hid (stepsP_ok l allOk_F0 hG)
    have HTA := Lib.hid hta
    clear hG h60 hops htd hta
    go_upto_region 10 with (go_at_call 21; go_fit (setAsk_any _); rintro e w3 ⟨v3, rfl, hown3, hb3⟩; obtain ⟨A3, c3, rfl⟩ := own_slice hown3; have HO3 := Lib.hid (ints_own hown3 (asksL_length 145)); have HW3 := Lib.hid hb3; have HB3 := Lib.hid (below_tr HB2.out (Nat.le_refl _) hb3); have HK3 := Lib.hid (HK2.out.below hb3 HK2.out.lt); have HTA3 := Lib.hid (HTA.out.keep hb3); clear hown3 hb3)
    go_loopw [34] (fun s34 wr => ∃ i : Nat, i ≤ 4 ∧ s34 = .int .i64 (i : Int) ∧ Below w3.heap.size w3 wr) (fun s34 _ => 4 - (intOf s34).toNat)
    case atStart => exact ⟨0, Nat.zero_le _, rfl, Below.refl _ _⟩
    case round =>
      obtain ⟨i, hi, rfl, hb⟩ := hrel
      by_cases hlt : i < 4
      · have hta := HTA3.out.keep hb
        obtain ⟨Ah, ch, eh⟩ := own_slice (hta.hown i hlt)
        obtain ⟨Ar, cr, er⟩ := own_slice (hta.rown i hlt)
        have k0 := hta.has i hlt
        have k1 := hta.len i hlt
        have k2 := hta.least i hlt
        have k3 := hta.runs i hlt
        have k4 := hta.text i hlt
        have hgl := hta.lt
        have ho := hta.hown i hlt
        have hr := hta.rown i hlt
        rw [eh] at k0 ho
        rw [er] at k3 hr
        rw [asksL_length] at k0 ho
        have HRH := Lib.hid (RowV.of_own ho)
        have HRR := Lib.hid (RowR.of_own hr rfl)
        have hb0 := hb
        have HK := Lib.hid (HK3.out.below hb HK3.out.lt)
        have hfl := Fine.len (HAO.out i)
        obtain ⟨nl, hnl⟩ : ∃ nl, (F i).length = nl := ⟨_, rfl⟩
        obtain ⟨L, hL⟩ : ∃ L, lenR (F i) = L := ⟨_, rfl⟩
        obtain ⟨M, hM⟩ : ∃ M, leastI (F i) = M := ⟨_, rfl⟩
        obtain ⟨tx, htx⟩ : ∃ tx, textI (F i) = tx := ⟨_, rfl⟩
        rw [hL] at k1
        rw [hM] at k2
        rw [hnl] at k3 hfl
        rw [htx] at k4
        have HL := Lib.hid hL
        have HM := Lib.hid hM
        have HNL := Lib.hid hnl
        clear hta eh er ho hr hb hnl hL hM htx
        go_upto_region 12 with fail
        have hba := below_al hb0 (Nat.le_refl _) (o := .cells #[.slice Ah 145 ch, .int .i64 L, .int .i64 M, .slice Ar nl cr, .string tx] 60)
        have hka := HK.out.alloc (.cells #[.slice Ah 145 ch, .int .i64 L, .int .i64 M, .slice Ar nl cr, .string tx] 60)
        have hza : Blk (wr.alloc (.cells #[.slice Ah 145 ch, .int .i64 L, .int .i64 M, .slice Ar nl cr, .string tx] 60)) wr.heap.size 60 #[.slice Ah 145 ch, .int .i64 L, .int .i64 M, .slice Ar nl cr, .string tx] := Blk.new _ _ _
        have hha := HRH.out.below (below_box wr (.cells #[.slice Ah 145 ch, .int .i64 L, .int .i64 M, .slice Ar nl cr, .string tx] 60))
        have hra := HRR.out.below (below_box wr (.cells #[.slice Ah 145 ch, .int .i64 L, .int .i64 M, .slice Ar nl cr, .string tx] 60))
        generalize (wr.alloc (.cells #[.slice Ah 145 ch, .int .i64 L, .int .i64 M, .slice Ar nl cr, .string tx] 60)) = wa at hba hka hza hha hra ⊢
        generalize wr.heap.size = zb at hza ⊢
        have HBA := Lib.hid hba
        have HKA := Lib.hid hka
        have HZA := Lib.hid hza
        have HHA := Lib.hid hha
        have HRA := Lib.hid hra
        clear hba hka hza hha hra k0 k1 k2 k3 k4 hgl hb0 HRH HRR HK
        go_upto_if 44 with (go_at_call 22; go_fit (runs_any _ b (i * 141) (F i) (numAt_blk (M := fun s u => memB (F s) u) HKA.out hlt) (HAO.out i)); rintro e w4 ⟨rv, rfl, hown, hb4⟩; obtain ⟨Aq, cq, rfl⟩ := own_slice hown; have HQ := Lib.hid hown; have HB4 := Lib.hid (below_tr HBA.out (Nat.le_refl _) hb4); have HK4 := Lib.hid (HKA.out.below hb4 HKA.out.lt); have HZ4 := Lib.hid (HZA.out.below hb4 HZA.out.lt); have HH4 := Lib.hid (HHA.out.below hb4); have HR4 := Lib.hid (HRA.out.below hb4); rw [HNL.out]; clear hown hb4)
        go_cut [11] (fun s11 wx => s11 = .int .i64 M ∧ w4 = wx)
        case first =>
          by_cases h0 : nl = 0
          · have hM0 : M = 0 := by
              rw [← HM.out, List.eq_nil_of_length_eq_zero (HNL.out.trans h0)]
              rfl
            subst h0
            go_wp2_with fail
            go_meet
            case rel => exact ⟨by rw [hM0], rfl⟩
          · have hpos : 0 < nl := by omega
            obtain ⟨p, hp⟩ : ∃ p, (F i)[0]? = some p := ⟨(F i)[0]'(by rw [HNL.out]; exact hpos), List.getElem?_eq_getElem _⟩
            obtain ⟨gq, c', e, _, hgq, d1, d2⟩ := rowJ_cells HQ.out hp
            injection e with e1 e2 e3
            subst e1
            have d1' : w4.cell? ⟨gq, 0, none⟩ = some (.int .i64 p.1) := d1
            have hMp := Lib.hid (show p.1 = M by
              rw [← HM.out]
              unfold leastI
              rw [List.head?_eq_getElem?, hp]
              rfl)
            clear e2 e3 d1 d2 hp
            go_wp2_with fail
            go_meet
            case rel => exact ⟨by rw [hMp.out], rfl⟩
        case rest =>
          obtain ⟨rfl, rfl⟩ := hcut
          go_upto_region 15 with fail
          obtain ⟨y0, y1, y2, y3, y4, _, _, _, _, _⟩ := cells5 HZ4.out
          have hq4 := RowR.of_own HQ.out rfl
          have he1 := equalJ_yes w4 Ar Aq cr cq (F i) HR4.out hq4 (by rw [HNL.out]; exact hfl)
          have he2 := equalJ_yes w4.drew Ar Aq cr cq (F i) (HR4.out.below (Below.refl _ _).drew) (hq4.below (Below.refl _ _).drew) (by rw [HNL.out]; exact hfl)
          rw [HNL.out] at he1 he2
          have HE1 := Lib.hid he1
          have HE2 := Lib.hid he2
          clear hq4 he1 he2
          go_cut [75] (fun s75 wx => s75 = .bool false ∧ Below w4.heap.size w4 wx)
          case first =>
            go_region_law (first
              | (go_simp; go_at_call 23; (first | go_fit HE1.out | go_fit HE2.out); rintro e w5 ⟨rfl, hb5⟩; have HB5 : Hid (Below w4.heap.size w4 w5) := (by first | exact hb5 | exact (Below.refl w4.heap.size w4).drew.trans hb5); obtain ⟨x0, x1, x2, x3, x4, _, _, _, _, _⟩ := cells5 (HZ4.out.below HB5.out HZ4.out.lt); have HK5 := Lib.hid (HK4.out.below HB5.out HK4.out.lt); clear hb5)
              | (go_simp; go_at_call 24; (first | go_fit (count_fine _ b (i * 141) (F i) (numAt_blk (M := fun s u => memB (F s) u) HK5.out hlt) (HAO.out i)) | go_fit (count_fine _ b (i * 141) (F i) (numAt_blk (M := fun s u => memB (F s) u) HK5.out.drew hlt) (HAO.out i))); rw [HL.out]; rintro e w6 ⟨rfl, rfl⟩))
            all_goals go_wp2_with fail
            all_goals go_meet
            all_goals exact ⟨rfl, by first | exact HB5.out | exact HB5.out.drew⟩
          case rest =>
            obtain ⟨rfl, hb5⟩ := hcut
            have HB5 := Lib.hid hb5
            clear hb5 y0 y1 y2 y3 y4 HE1 HE2
            go_wp2
            go_loopw [78] (fun s78 wx => ∃ k : Nat, k ≤ 145 ∧ s78 = .int .i64 (k : Int) ∧ Below w4.heap.size w4 wx) (fun s78 _ => 145 - (intOf s78).toNat)
            case atStart => exact ⟨0, Nat.zero_le _, rfl, HB5.out⟩
            case round =>
              obtain ⟨k, hk, rfl, hb6⟩ := hrel
              have hb36 := below_tr HB4.out (Nat.le_refl _) hb6
              by_cases hkl : k < 145
              · obtain ⟨u, hu, a, rfl, hab, cx⟩ := ints_round (HO3.out.below hb36 (Nat.le_refl _)) (by rw [asksL_length]; exact hkl)
                obtain ⟨gh, rfl, ch1⟩ := HH4.out.below hb6 k (.bool (memB (F i) u)) (by simp [hasI, hu])
                obtain ⟨z0, _, _, _, _, _, _, _, _, _⟩ := cells5 (HZ4.out.below hb6 HZ4.out.lt)
                have HN6 := Lib.hid (numAt_blk (M := fun s u => memB (F s) u) (HK4.out.below hb6 HK4.out.lt) hlt)
                obtain ⟨y, hy⟩ : ∃ y, memB (F i) u = y := ⟨_, rfl⟩
                rw [hy] at ch1
                have Hy := Lib.hid hy
                have HB6 := Lib.hid hb6
                clear hu hb6 hb36 hy
                go_upto_region 20 with fail
                go_cut [92] (fun s92 wx => s92 = .bool false ∧ Below w4.heap.size w4 wx)
                case first =>
                  go_region_law (first
                    | (go_simp; go_at_call 25; go_fit (has_all _ b (i * 141) (F i) u (by first | exact HN6.out | exact HN6.out.below (Below.refl _ _).drew HN6.out.lt) (HAO.out i)); rw [Hy.out]; rintro e w7 ⟨rfl, rfl⟩))
                  all_goals go_wp2_with fail
                  all_goals go_meet
                  all_goals exact ⟨rfl, HB6.out.drew⟩
                case rest =>
                  obtain ⟨rfl, hb7⟩ := hcut
                  have HB7 := Lib.hid hb7
                  clear hb7 cx ch1 z0
                  go_wp2
                  go_roundw
                  case rel => exact ⟨k + 1, by omega, rfl, HB7.out⟩
                  case measure =>
                    simp [intOf]
                    omega
              · obtain rfl : k = 145 := by omega
                have HB36 := Lib.hid hb36
                clear hb6 hb36
                go_wp2
                go_roundw
                case rel => exact ⟨i + 1, by omega, rfl, HB36.out⟩
                case measure =>
                  simp [intOf]
                  omega
      · obtain rfl : i = 4 := by omega
        have HB := Lib.hid hb
        clear hb
        go_wp2_with (go_at_call 20; go_fit (setAwake_yes _ (HT.out.below (below_tr HB3.out (Nat.le_refl _) HB.out))); rintro e w4 ⟨rfl, hb4⟩; have HB4 := Lib.hid (below_tr (below_tr HB3.out (Nat.le_refl _) HB.out) (Nat.le_refl _) hb4); clear hb4)
        go_ret
        exact ⟨rfl, HB4.out⟩
end Go.Proofs.YtiffjbpejlnndaaDoor
