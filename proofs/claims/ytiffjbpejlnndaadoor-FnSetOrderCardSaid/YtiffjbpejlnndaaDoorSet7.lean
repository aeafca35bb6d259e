/-
  laws.FnSetOrder answers true. Conditions: steps as they come in; the library's tables as they are laid.
-/
import Derived.Test.YtiffjbpejlnndaaDoorSet6
import Derived.Test.YtiffjbpejlnndaaDoorSet4
namespace Go.Proofs.YtiffjbpejlnndaaDoor
open Go.RowKit

theorem order_big (w : World) (A : Option Addr) (c n : Nat) (hn : 2147483647 < n) : Calls Tryd.prog 8 #[.slice A n c] w (Saw w (.bool true)) := by
  go_enter Tryd.func8, Tryd.ntmps8
  go_wp2
  go_ret
  exact ⟨rfl, Below.refl _ _⟩
theorem at_lt2 {l : List Stp} {k : Nat} {s : Stp} (h : l[k]? = some s) : k < l.length := by
  rcases Nat.lt_or_ge k l.length with h2 | h2
  · exact h2
  · rw [List.getElem?_eq_none h2] at h
    cases h
theorem okOps_at {l : List Stp} (h : okOps [0, 1] l = true) : ∀ s ∈ l, s.op ≤ 1 := by
  unfold okOps at h
  rw [List.all_eq_true] at h
  intro s hs
  have := h s hs
  unfold isOp at this
  simp at this
  omega
/-- What is compared of a set. -/
structure CmpAt (W : World) (g : Nat) (Ah : Option Addr) (ch : Nat) (Ar : Option Addr) (nl cr : Nat) (tx : ByteArray) : Prop where
  lt : g < W.heap.size
  has : W.cell? ⟨g, 0, none⟩ = some (.slice Ah 145 ch)
  runs : W.cell? ⟨g, 3, none⟩ = some (.slice Ar nl cr)
  text : W.cell? ⟨g, 4, none⟩ = some (.string tx)
theorem CmpAt.keep {W W' : World} {g ch nl cr : Nat} {Ah Ar : Option Addr} {tx : ByteArray} (h : CmpAt W g Ah ch Ar nl cr tx) (hb : Below W.heap.size W W') : CmpAt W' g Ah ch Ar nl cr tx :=
  ⟨Nat.lt_of_lt_of_le h.lt hb.size, (hb.cell (p := ⟨g, 0, none⟩) h.lt).trans h.has, (hb.cell (p := ⟨g, 3, none⟩) h.lt).trans h.runs, (hb.cell (p := ⟨g, 4, none⟩) h.lt).trans h.text⟩
def Six (g1 g2 : Nat) (x1 x2 x3 y1 y2 y3 : Value) (W : World) : Prop := W.cell? ⟨g1, 0, none⟩ = some x1 ∧ W.cell? ⟨g1, 3, none⟩ = some x2 ∧ W.cell? ⟨g1, 4, none⟩ = some x3 ∧ W.cell? ⟨g2, 0, none⟩ = some y1 ∧ W.cell? ⟨g2, 3, none⟩ = some y2 ∧ W.cell? ⟨g2, 4, none⟩ = some y3
theorem CmpAt.six {W : World} {g1 g2 ch1 ch2 nl cr1 cr2 : Nat} {Ah1 Ah2 Ar1 Ar2 : Option Addr} {tx : ByteArray} (h1 : CmpAt W g1 Ah1 ch1 Ar1 nl cr1 tx) (h2 : CmpAt W g2 Ah2 ch2 Ar2 nl cr2 tx) :
    Six g1 g2 (.slice Ah1 145 ch1) (.slice Ar1 nl cr1) (.string tx) (.slice Ah2 145 ch2) (.slice Ar2 nl cr2) (.string tx) W := ⟨h1.has, h1.runs, h1.text, h2.has, h2.runs, h2.text⟩
theorem ToldAt.cmp {w W : World} {F : Nat → List Rng} {g : Nat} {hs rs : Nat → Value} (h : ToldAt w F (asksL 145) g hs rs W) :
    ∃ Ah ch Ar cr, CmpAt W g Ah ch Ar (F 0).length cr (textI (F 0)) ∧ RowV W Ah (((asksL 145).map (memB (F 0))).map Value.bool) ∧ RowR W Ar (F 0) := by
  have h1 := h.hown 0 (by omega)
  have h2 := h.rown 0 (by omega)
  obtain ⟨Ah, ch, e1⟩ := own_slice h1
  obtain ⟨Ar, cr, e2⟩ := own_slice h2
  have c0 := h.has 0 (by omega)
  have c3 := h.runs 0 (by omega)
  rw [e1] at h1 c0
  rw [e2] at h2 c3
  rw [asksL_length] at h1 c0
  have hh : hasI (F 0) (asksL 145) = ((asksL 145).map (memB (F 0))).map Value.bool := by
    unfold hasI
    rw [List.map_map]
    rfl
  rw [hh] at h1
  exact ⟨Ah, ch, Ar, cr, ⟨h.lt, c0, c3, h.text 0 (by omega)⟩, RowV.of_own h1, RowR.of_own h2 rfl⟩
theorem equalB_n (W : World) (A1 A2 : Option Addr) (c1 c2 n : Nat) (bs : List Bool) (hn : bs.length = n) (h1 : RowV W A1 (bs.map Value.bool)) (h2 : RowV W A2 (bs.map Value.bool)) (hb : n ≤ 1000) :
    Calls Tryd.prog 32 #[.slice A1 n c1, .slice A2 n c2] W (Saw W (.bool true)) := by
  subst hn
  exact equal_yes W A1 A2 c1 c2 bs h1 h2 hb
theorem equalJ_n (W : World) (A1 A2 : Option Addr) (c1 c2 n : Nat) (l : List Rng) (hn : l.length = n) (h1 : RowR W A1 l) (h2 : RowR W A2 l) (hb : n ≤ 1000) :
    Calls Tryd.prog 23 #[.slice A1 n c1, .slice A2 n c2] W (Saw W (.bool true)) := by
  subst hn
  exact equalJ_yes W A1 A2 c1 c2 l h1 h2 hb
/-- Behind a variable of four sets that is made and written. -/
theorem var54 (W : World) (F : Nat → List Rng) : Below W.heap.size W ((W.alloc (.cells (numF F0) 54)).setRow W.heap.size (numCells fun s u => memB (F s) u)) :=
  (below_box W _).grown (only_setRow _ _ _) (below_box W _).size (fun j hj => by injection hj with hj; rw [← hj]; exact Nat.le_refl _)
set_option maxRecDepth 100000 in
set_option maxHeartbeats 1000000 in
theorem order_any (w : World) (U : Nat) (A : Option Addr) (c : Nat) (l : List Stp) (h : StepsAt w U A l) (hU : U ≤ w.heap.size) (hn : l.length ≤ 2147483647) (hT : Tabs w) :
    Calls Tryd.prog 8 #[.slice A l.length c] w (Saw w (.bool true)) := by
  have H := Lib.hid h
  have HT := Lib.hid hT
  have hz := zero54.1
  obtain ⟨n, hnn⟩ : ∃ n, l.length = n := ⟨_, rfl⟩
  obtain ⟨x, hx⟩ : ∃ x, okOps [0, 1] l = x := ⟨_, rfl⟩
  have ho := only_any (w.alloc (.cells #[.int .u8 0, .int .u8 1] 5)) U A (some ⟨w.heap.size, 0, none⟩) c 2 l [0, 1] (h.below (below_box w _) hU) (rowV_blk w _ 5 (opsV [0, 1]) rfl) (size_alloc1 _ hU) hn (by decide) hx
  rw [hnn] at hn ho ⊢
  have Hn := Lib.hid hnn
  have HO := Lib.hid ho
  have Hx := Lib.hid hx
  have hnr : l.reverse.length = n := by rw [List.length_reverse]; exact hnn
  have Hnr := Lib.hid hnr
  clear h hT hnn ho hx hnr
  go_enter Tryd.func8, Tryd.ntmps8
  cases x with
  | false =>
    go_wp2_with (first
      | (go_at_call 26; go_fit HO.out; rintro e w1 ⟨rfl, hb1⟩; have HB1 := Lib.hid (below_tr (below_box w _) (Nat.le_refl _) hb1); clear hb1)
      | (go_at_call 20; go_fit (setAwake_yes _ (HT.out.below HB1.out)); rintro e w2 ⟨rfl, hb2⟩; have HB2 := Lib.hid (below_tr HB1.out (Nat.le_refl _) hb2); clear hb2))
    go_ret
    exact ⟨rfl, HB2.out⟩
  | true =>
    go_upto_region 8 with (first
      | (go_at_call 26; go_fit HO.out; rintro e w1 ⟨rfl, hb1⟩; have HB1 := Lib.hid (below_tr (below_box w _) (Nat.le_refl _) hb1); clear hb1)
      | (go_at_call 27; (have hc := clone_any w1 U A c l (H.out.below HB1.out hU) (by rw [Hn.out]; exact hn)); rw [Hn.out] at hc; go_fit hc; rintro e w2 ⟨v, rfl, hown, hb2⟩; obtain ⟨Ab, cb, rfl⟩ := own_slice hown; rw [Hn.out] at hown ⊢; have HOB := Lib.hid hown; have HB2 := Lib.hid (below_tr HB1.out (Nat.le_refl _) hb2); clear hown hb2)
      | (go_at_call 28; go_fit (reverse_any _ _ Ab n cb l HOB.out Hn.out hn); rintro e w3 ⟨rfl, hown, hb3⟩; have HR := Lib.hid hown; have HB3 := Lib.hid (HB2.out.trans (hb3.mono HB1.out.size)); clear hown hb3))
    have hst := steps_own HR.out Hnr.out
    have HST := Lib.hid hst
    clear hst
    go_loopw [27] (fun s27 wr => ∃ k : Nat, k ≤ n ∧ s27 = .int .i64 (k : Int) ∧ Hid (∀ (i : Nat) (s : Stp), i < k → l.reverse[i]? = some s → s.set = 0) ∧ w3 = wr) (fun s27 _ => n - (intOf s27).toNat)
    case atStart => exact ⟨0, Nat.zero_le _, rfl, (fun i s hi => absurd hi (Nat.not_lt_zero i)), rfl⟩
    case round =>
      obtain ⟨k, hk, rfl, hall, rfl⟩ := hrel
      by_cases hlt : k < n
      · obtain ⟨s, hs⟩ : ∃ s, l.reverse[k]? = some s := ⟨l.reverse[k]'(by rw [Hnr.out]; exact hlt), List.getElem?_eq_getElem _⟩
        obtain ⟨ad, rfl, _, d0, d1, _, _⟩ := HST.out.at_ hs
        have Hs := Lib.hid hs
        clear hs hz
        by_cases e : s.set = 0
        · rw [e] at d1
          have He := Lib.hid e
          clear e
          go_wp2
          go_roundw
          case rel =>
            refine ⟨k + 1, by omega, rfl, fun i t hi ht => ?_, trivial⟩
            by_cases ei : i = k
            · subst ei
              rw [Hs.out] at ht
              cases ht
              exact He.out
            · exact hall.out i t (by omega) ht
          case measure =>
            simp [intOf]
            omega
        · go_wp2_with (go_at_call 20; go_fit (setAwake_yes _ (HT.out.below HB3.out)); rintro e w4 ⟨rfl, hb4⟩; have HB4 := Lib.hid (below_tr HB3.out (Nat.le_refl _) hb4); clear hb4)
          go_ret
          exact ⟨rfl, HB4.out⟩
      · have hkn : k = n := by omega
        subst hkn
        have H01 : Hid (∀ s ∈ l, s.op ≤ 1 ∧ s.set = 0) := fun s hs => ⟨okOps_at Hx.out s hs, by
          obtain ⟨i, hi⟩ := List.getElem?_of_mem (List.mem_reverse.2 hs)
          have := at_lt2 hi
          rw [Hnr.out] at this
          exact hall.out i s this hi⟩
        have hc := setsDo_any w3 w3.heap.size Ab cb l.reverse HST.out (Nat.le_refl _) (by rw [Hnr.out]; exact hn)
        rw [Hnr.out] at hc
        have HC := Lib.hid hc
        clear hc hall hlt
        go_upto_region 14 with (first
          | (go_at_call 29; go_fit HC.out; rintro e w4 ⟨F, r, rfl, hr, hF, hb4⟩; have HR4 := Lib.hid hr; have HF4 := Lib.hid hF; have HW4 := Lib.hid hb4; have HKN : Hid (Blk (w4.alloc (.cells (numF F0) 54)) w4.heap.size 54 (numF F0)) := Blk.new _ _ _; clear hr hF hb4)
          | (refine wpList_put54 rfl _ _ rfl w4.heap.size (fun s u => memB (F0 s) u) (fun s u => memB (F s) u) rfl rfl HKN.out ?_))
        have hv5 := var54 w4 F
        generalize ((w4.alloc (.cells (numF F0) 54)).setRow w4.heap.size (numCells fun s u => memB (F s) u)) = w5 at hv5 ⊢
        have HW5 := Lib.hid (below_tr HW4.out (Nat.le_refl _) hv5)
        have HB5 := Lib.hid (below_tr HB3.out (Nat.le_refl _) HW5.out)
        clear hv5
        cases r with
        | false =>
          go_wp2_with (go_at_call 20; go_fit (setAwake_yes _ (HT.out.below HB5.out)); rintro e wz ⟨rfl, hbz⟩; have HBZ := Lib.hid (below_tr HB5.out (Nat.le_refl _) hbz); clear hbz)
          go_ret
          exact ⟨rfl, HBZ.out⟩
        | true =>
          obtain ⟨K, hK⟩ := Option.isSome_iff_exists.1 HR4.out.symm
          obtain rfl := HF4.out K hK
          have HK := Lib.hid hK
          have hd := done_any (w5.alloc (.cells #[.int .u8 0, .int .u8 1] 5)) U A (some ⟨w5.heap.size, 0, none⟩) c 2 l [0, 1] ((H.out.below HB5.out hU).below (below_box w5 _) (Nat.le_trans hU HB5.out.size)) (rowV_blk w5 _ 5 (opsV [0, 1]) rfl) (size_alloc1 _ (Nat.le_trans hU HB5.out.size)) (by rw [Hn.out]; exact hn) (by decide) (HT.out.below (below_al HB5.out (Nat.le_refl _)))
          rw [Hn.out] at hd
          have HD := Lib.hid hd
          clear hK hd HF4 HR4
          go_upto_region 17 with (first
            | (go_at_call 19; go_fit (HD.out.mono fun _ _ h => h.uni); rintro e w6 ⟨G, tv, y, ok, rfl, hb6, hok⟩; have HW6 := Lib.hid (below_tr (below_box w5 _) (Nat.le_refl _) hb6); have HOK := Lib.hid hok; have HKN6 : Hid (Blk (w6.alloc (.cells (numF F0) 54)) w6.heap.size 54 (numF F0)) := Blk.new _ _ _; clear hb6 hok)
            | (refine wpList_put54 rfl _ _ rfl w6.heap.size (fun s u => memB (F0 s) u) (fun s u => memB (G s) u) rfl rfl HKN6.out ?_))
          have hv7 := var54 w6 G
          generalize ((w6.alloc (.cells (numF F0) 54)).setRow w6.heap.size (numCells fun s u => memB (G s) u)) = w7 at hv7 ⊢
          have HV7 := Lib.hid hv7
          have HW7 := Lib.hid (below_tr HW5.out (Nat.le_refl _) (below_tr HW6.out (Nat.le_refl _) hv7))
          have HB7 := Lib.hid (below_tr HB3.out (Nat.le_refl _) HW7.out)
          clear hv7
          cases ok with
          | false =>
            go_wp2_with (go_at_call 20; go_fit (setAwake_yes _ (HT.out.below HB7.out)); rintro e wz ⟨rfl, hbz⟩; have HBZ := Lib.hid (below_tr HB7.out (Nat.le_refl _) hbz); clear hbz)
            go_ret
            exact ⟨rfl, HBZ.out⟩
          | true =>
            obtain ⟨hG, h60, _, htd⟩ := HOK.out rfl
            obtain ⟨g1, ct1, hs1, rs1, rfl, hta1⟩ := (htd.keep HV7.out).at_
            have HGF := Lib.hid (stepsP_back hG HK.out H01.out)
            have HAO := Lib.hid (stepsP_ok l.reverse allOk_F0 HK.out)
            have HTA1 := Lib.hid hta1
            rw [Hn.out] at h60
            have hs7 := (HST.out.below HW7.out (Nat.le_refl _)).mono HW7.out.size
            have hc1 := setTo_any w7 w7.heap.size Ab cb l.reverse hs7 (Nat.le_refl _) (by rw [Hnr.out]; omega)
            rw [Hnr.out] at hc1
            have HC1 := Lib.hid hc1
            clear hG htd hta1 hs7 hc1
            go_upto_region 20 with (first
              | (go_at_call 31; go_fit HC1.out; rintro e w8 ⟨v8, rfl, hown8, hb8⟩; obtain ⟨A8, c8, rfl⟩ := own_slice hown8; have HO8 := Lib.hid hown8; have HW8 := Lib.hid hb8; clear hown8 hb8)
              | (go_at_call 21; go_fit (setAsk_any _); rintro e w9 ⟨v9, rfl, hown9, hb9⟩; obtain ⟨A9, c9, rfl⟩ := own_slice hown9; have HO9 := Lib.hid hown9; have HW9 := Lib.hid hb9; clear hown9 hb9)
              | (go_at_call 30; (have hc := sets_any w9 w9.heap.size A8 A9 c8 c9 l.reverse (asksL 145) F (((steps_own HO8.out Hnr.out).below HW9.out (Nat.le_refl _)).mono HW9.out.size) (ints_own HO9.out (asksL_length 145)) (Nat.le_refl _) (by rw [Hnr.out]; omega) (by rw [asksL_length]; omega) HK.out (HT.out.below (below_tr (below_tr HB7.out (Nat.le_refl _) HW8.out) (Nat.le_refl _) HW9.out))); rw [Hnr.out, asksL_length] at hc; go_fit hc; rintro e w10 ⟨tv2, y2, rfl, hb10, htd2⟩; have HW10 := Lib.hid (below_tr (below_tr HW8.out (Nat.le_refl _) HW9.out) (Nat.le_refl _) hb10); have HTD2 := Lib.hid htd2; clear hb10 htd2))
            obtain ⟨g2, ct2, hs2, rs2, rfl, hta2⟩ := HTD2.out.at_
            obtain ⟨Ah1, ch1, Ar1, cr1, hc1, hv1, hr1⟩ := (HTA1.out.keep HW10.out).cmp
            obtain ⟨Ah2, ch2, Ar2, cr2, hc2, hv2, hr2⟩ := hta2.cmp
            rw [HGF.out] at hc1 hv1 hr1
            have hfl := Fine.len (HAO.out 0)
            have hbl : ((asksL 145).map (memB (F 0))).length = 145 := by rw [List.length_map, asksL_length]
            generalize hbs : (asksL 145).map (memB (F 0)) = bs at hv1 hv2 hbl
            obtain ⟨fl, hfl0⟩ : ∃ fl, F 0 = fl := ⟨_, rfl⟩
            rw [hfl0] at hc1 hr1 hc2 hr2 hfl
            obtain ⟨nl, hnl⟩ : ∃ nl, fl.length = nl := ⟨_, rfl⟩
            obtain ⟨tx, htx⟩ : ∃ tx, textI fl = tx := ⟨_, rfl⟩
            rw [hnl, htx] at hc1 hc2
            rw [hnl] at hfl
            have HB10 := Lib.hid (below_tr HB7.out (Nat.le_refl _) HW10.out)
            have C1 := Lib.hid hc1
            have C2 := Lib.hid hc2
            have V1 := Lib.hid hv1
            have V2 := Lib.hid hv2
            have R1 := Lib.hid hr1
            have R2 := Lib.hid hr2
            have HBL := Lib.hid hbl
            have HNL := Lib.hid hnl
            have e32 := equalB_n w10.drew Ah1 Ah2 ch1 ch2 145 bs hbl (hv1.below (Below.refl _ _).drew) (hv2.below (Below.refl _ _).drew) (by decide)
            have E32 := Lib.hid e32
            have s10 := (hc1.keep (Below.refl _ _).drew).six (hc2.keep (Below.refl _ _).drew)
            have S10 := Lib.hid s10
            clear hc1 hc2 hv1 hv2 hr1 hr2 hbl hnl htx hbs hfl0 hta2 hz e32 s10 HD HO HC1 HC HTA1 HTD2 HOK HKN HKN6 H01 H
            clear V1 V2 HBL
            go_region_held3 (fun W => W.cell? ⟨g1, 0, none⟩ = some (.slice Ah1 145 ch1) ∧ W.cell? ⟨g1, 3, none⟩ = some (.slice Ar1 nl cr1) ∧ W.cell? ⟨g1, 4, none⟩ = some (.string tx) ∧ W.cell? ⟨g2, 0, none⟩ = some (.slice Ah2 145 ch2) ∧ W.cell? ⟨g2, 3, none⟩ = some (.slice Ar2 nl cr2) ∧ W.cell? ⟨g2, 4, none⟩ = some (.string tx))
              (first | exact S13.out | exact S12.out | exact S11.out | exact S10.out | go_keep)
              (first
                | (go_at_call 32; go_fit E32.out; rintro e w11 ⟨rfl, hb11⟩; have HW11 : Hid (Below w10.heap.size w10 w11) := (Below.refl w10.heap.size w10).drew.trans hb11; have HB11 := Lib.hid (below_tr HB10.out (Nat.le_refl _) HW11.out); have S11 := Lib.hid ((C1.out.keep HW11.out).six (C2.out.keep HW11.out)); clear hb11)
                | (go_at_call 23; go_fit (equalJ_n w11 Ar1 Ar2 cr1 cr2 nl fl HNL.out (R1.out.below HW11.out) (R2.out.below HW11.out) hfl); rintro e w12 ⟨rfl, hb12⟩; have HW12 := Lib.hid (below_tr HW11.out (Nat.le_refl _) hb12); have HB12 := Lib.hid (below_tr HB10.out (Nat.le_refl _) HW12.out); have S12 := Lib.hid ((C1.out.keep HW12.out).six (C2.out.keep HW12.out)); clear hb12)
                | (go_at_call 20; go_fit (setAwake_yes w12 (HT.out.below HB12.out)); rintro e w13 ⟨rfl, hb13⟩; have HW13 := Lib.hid (below_tr HW12.out (Nat.le_refl _) hb13); have HB13 := Lib.hid (below_tr HB12.out (Nat.le_refl _) hb13); have S13 := Lib.hid ((C1.out.keep HW13.out).six (C2.out.keep HW13.out)); clear hb13))
            all_goals go_wp2
            all_goals go_ret
            all_goals exact ⟨rfl, HB13.out⟩
end Go.Proofs.YtiffjbpejlnndaaDoor
