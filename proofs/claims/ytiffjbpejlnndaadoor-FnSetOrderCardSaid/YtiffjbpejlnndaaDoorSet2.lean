/-
  laws.setDone. Conditions: steps as they come in; the library's tables as they are laid.
-/
import Derived.Test.YtiffjbpejlnndaaDoorSet1
import Derived.Deep.MidRow
import Derived.Deep.RegionHeld
namespace Go.Proofs.YtiffjbpejlnndaaDoor
open Go.RowKit

theorem load54 {W : World} {b : Nat} {M : Nat → Int → Bool} (hb : Blk W b 54 (numCells M)) : (Instr.loadAt 54 (.pointer (some ⟨b, 0, none⟩))).run Tryd.prog W = .ok (.agg (numCells M)) W := by
  simp only [Instr.loadAt, Instr.sureAddr, Sem.run_bind, Sem.run_pure, Result.andThen_ok]
  exact run_loadVar_row W b 54 54 (numCells M) (0, 0) _ hb Tryd.underlying54 rfl (by rw [numCells_size]; exact zero54.2)
theorem store54 {W : World} {b : Nat} {M : Nat → Int → Bool} (hb : Blk W b 54 (numCells M)) : (Instr.storeAt 54 (.pointer (some ⟨b, 0, none⟩)) (.agg (numCells M))).run Tryd.prog W = .ok () W := by
  have := run_storeVar_row (P := Tryd.prog) W b 54 54 (numCells M) (numCells M) hb (by rw [numCells_size]; exact zero54.2) rfl (numCells_one M)
  rw [setRow_same hb] at this
  simp only [Instr.storeAt, Instr.sureAddr, Sem.run_bind, Sem.run_pure, Result.andThen_ok]
  exact this
theorem setCells_same {b : Nat} {t : TypeId} {cs : Array Value} : ∀ (vs : List Value) (o : Nat) {w : World}, Blk w b t cs → (∀ j v, vs[j]? = some v → cs[o + j]? = some v) → w.setCells b o vs = w
  | [], _, _, _, _ => rfl
  | v :: r, o, w, h, hv => by
    have h0 := hv 0 v rfl
    have e : w.setCell ⟨b, o, none⟩ v = w := by
      rw [setCell_eq_setRow w b o cs t (0, 0) v h]
      have : cs.setIfInBounds o v = cs := by
        apply Array.ext_getElem?
        intro i
        by_cases e : o = i
        · subst e
          have hl : o < cs.size := by
            rcases Nat.lt_or_ge o cs.size with h2 | h2
            · exact h2
            · rw [Nat.add_zero, Array.getElem?_eq_none h2] at h0
              cases h0
          rw [Array.getElem?_setIfInBounds_self_of_lt hl]
          exact h0.symm
        · rw [Array.getElem?_setIfInBounds_ne e]
      rw [this]
      exact setRow_same h
    rw [World.setCells, e]
    exact setCells_same r (o + 1) h fun j u hj => by
      have := hv (j + 1) u (by simpa using hj)
      rw [show o + 1 + j = o + (j + 1) by omega]
      exact this
theorem keep54 {W : World} {b : Nat} {cs : List Value} (h : W.there b 0 564) (hl : cs.length = 564) : (W.setCells b 0 cs).rangeAt b 0 cs ∧ (W.setCells b 0 cs).there b 0 564 :=
  ⟨World.rangeAt_setCells_same W b 0 cs (by rw [hl]; exact h), World.there_setCells h b 0 cs⟩
/-- What a region wants that reads and writes the variable whole. -/
theorem facts54 {W : World} {b : Nat} {F : Nat → List Rng} (hb : Blk W b 54 (numF F)) :
    ∃ cs : List Value, numF F = cs.toArray ∧ Tryd.prog.underlying 54 = some (.array 4 53) ∧ (Tryd.prog.info? 54).map (·.size) = some cs.length ∧ cs.length = 564 ∧ (∀ v ∈ cs, v.oneCell' = true) ∧ W.rangeAt b 0 cs ∧ W.there b 0 564 ∧ W.setCells b 0 cs = W := by
  have hl : (numF F).toList.length = 564 := by rw [Array.length_toList]; exact numCells_size _
  refine ⟨(numF F).toList, by simp, Tryd.underlying54, by rw [hl]; exact zero54.2, hl, fun v hv => (Array.all_eq_true_iff_forall_mem.1 (numCells_one fun s u => memB (F s) u)) v (Array.mem_toList_iff.1 hv), fun j v hj => ?_, fun j hj => ⟨?_, ?_⟩, ?_⟩
  · rw [hb.cell, Nat.zero_add]
    simpa using hj
  · rw [hb.cell, Nat.zero_add, show numF F = numCells _ from rfl, numCells_at _ hj]
    rfl
  · exact hb.frozen (0 + j)
  · exact setCells_same _ 0 hb fun j v hj => by
      rw [Nat.zero_add]
      simpa using hj
theorem yields54 {ops : Array Oper} {S : World → Prop} {op : Oper} {a : Act} {b : Nat} {M : Nat → Int → Bool} (hw : Region.wanted op (yielded ops a.tmps) = true) (x : Operand) (ho : op.op = .load 54 x)
    (hx : a.eval x = .pointer (some ⟨b, 0, none⟩)) (hS : ∀ w, S w → Blk w b 54 (numCells M)) : YieldsIf Tryd.prog ops S op (.agg (numCells M)) a :=
  .inl ⟨hw, fun w hw' => by
    unfold execOp
    simp only [ho, hx, Sem.run_bind, Sem.run_pure, load54 (hS w hw'), Result.andThen_ok]⟩
theorem wp_put54 {o : Oper} {a : Act} {w : World} {K : Act → World → Prop} {Q : Exit → Act → World → Prop} (x y : Operand) (ho : o.op = .store 54 x y) (b : Nat) (M : Nat → Int → Bool)
    (hx : a.eval x = .pointer (some ⟨b, 0, none⟩)) (hy : a.eval y = .agg (numCells M)) (hb : Blk w b 54 (numCells M)) (h : K (a.put o.dst undef) w) : o.wp Tryd.prog a w K Q :=
  wp_store_row 54 x y ho b (numCells M) hx hy 54 (numCells M) hb (by rw [numCells_size]; exact zero54.2) rfl (numCells_one M) (by rw [setRow_same hb]; exact h)
/-- Other marks are written into the variable. -/
theorem wpList_put54 {ops : Array Oper} {rest : List Oper} {o : Oper} {a : Act} {w : World} {Q : Exit → Act → World → Prop} (hgd : o.guard = none) (x y : Operand) (ho : o.op = .store 54 x y) (b : Nat) (M N : Nat → Int → Bool)
    (hx : a.eval x = .pointer (some ⟨b, 0, none⟩)) (hy : a.eval y = .agg (numCells N)) (hb : Blk w b 54 (numCells M)) (h : wpList Tryd.prog ops Q rest (a.put o.dst undef) (w.setRow b (numCells N))) : wpList Tryd.prog ops Q (o :: rest) a w :=
  wpList_plain hgd fun _ hK => wp_store_row 54 x y ho b (numCells N) hx hy 54 (numCells M) hb (by rw [numCells_size]; exact zero54.2) (by rw [numCells_size, numCells_size]) (numCells_one N) (hK _ _ h)
theorem only_setRow (w : World) (b : Nat) (cs : Array Value) : w.grownBy (w.setRow b cs) (some b) := by
  refine ⟨rfl, rfl, rfl, by simp [World.setRow], fun i _ hne => ?_⟩
  unfold World.setRow
  rw [Array.getElem?_modify, if_neg (fun e => hne (by rw [e]))]
theorem Blk.row {w : World} {b : Nat} {t : TypeId} {old cs : Array Value} (h : Blk w b t old) : Blk (w.setRow b cs) b t cs := setRow_heap w b old cs t (0, 0) h
theorem results_done {P : Program} {fn : Func} {p u1 u2 u3 : Tmp} {ty : TypeId} (h : fn.results = #[.tmp u1, .cell p ty, .tmp u2, .tmp u3]) (tmps : Array Value) (w : World) (g : Nat) (t : TypeId) (cs : Array Value) (d : TypeDesc)
    (hp : tmps.getD p undef = .pointer (some ⟨g, 0, none⟩)) (hg : Blk w g t cs) (hu : P.underlying ty = some d) (hd : (match d with | .struct _ | .array _ _ => true | _ => false) = true) (hi : (P.info? ty).map (·.size) = some cs.size) :
    (results fn tmps).run P w = .ok (.tuple #[tmps.getD u1 undef, .agg cs, tmps.getD u2 undef, tmps.getD u3 undef]) w := by
  have hp' : tmps[p]?.getD undef = .pointer (some ⟨g, 0, none⟩) := by simpa using hp
  simp [results, h, hp', asAddr, run_loadVar_row w g t ty cs (0, 0) d hg hu hd hi]
theorem Told.mono {w v W : World} {F : Nat → List Rng} {asks : List Int} {k : Nat} {tv : Value} (h : Told v F asks k tv W) (hs : w.heap.size ≤ v.heap.size) : Told w F asks k tv W := by
  obtain ⟨hs', rs, h1, h2⟩ := h
  exact ⟨hs', rs, h1.mono hs, fun j hj => ⟨(h2 j hj).1.mono hs, (h2 j hj).2.mono hs⟩⟩
def DonePost (w : World) (l : List Stp) (ops : List Nat) (e : Ending) (w' : World) : Prop :=
  Below w.heap.size w w' ∧ ((∃ F, e = .returned (.tuple #[.slice none 0 0, .agg (numF F), .bool false, .bool false]))
    ∨ ∃ G tv x, stepsP F0 l = some G ∧ l.length ≤ 60 ∧ okOps ops l = true ∧ e = .returned (.tuple #[tv, .agg (numF G), .bool x, .bool true]) ∧ Told w G (asksL 145) 4 tv w')
theorem done_ret {w W : World} {b : Nat} {l : List Stp} {ops : List Nat} {F : Nat → List Rng} (hb : Blk W b 54 (numF F)) {a : Act} (hp : a.tmps.getD 5 undef = .pointer (some ⟨b, 0, none⟩)) (hd : a.defers = []) {u1 u2 u3 : Value}
    (h1 : a.tmps.getD 4 undef = u1) (h2 : a.tmps.getD 6 undef = u2) (h3 : a.tmps.getD 7 undef = u3) (h : DonePost w l ops (.returned (.tuple #[u1, .agg (numF F), u2, u3])) W) :
    bodyPost Tryd.prog Tryd.f19 (DonePost w l ops) Exit.ret a W := by
  refine bodyPost_ret (results_done rfl _ _ b 54 (numF F) _ hp hb Tryd.underlying54 rfl (by show _ = some (numCells _).size; rw [numCells_size]; exact zero54.2)) hd ?_
  rw [h1, h2, h3]
  exact h
set_option maxRecDepth 100000 in
set_option maxHeartbeats 4000000 in
theorem done_any (w : World) (U : Nat) (A A2 : Option Addr) (c c2 : Nat) (l : List Stp) (ops : List Nat) (h : StepsAt w U A l) (h2 : RowV w A2 (opsV ops)) (hU : U ≤ w.heap.size) (hn : l.length ≤ 2147483647) (hm : ops.length ≤ 10) (hT : Tabs w) :
    Calls Tryd.prog 19 #[.slice A l.length c, .slice A2 ops.length c2] w (DonePost w l ops) := by
  have H := Lib.hid h
  have H2 := Lib.hid h2
  have HT := Lib.hid hT
  have hz := zero54.1
  obtain ⟨n, hnn⟩ : ∃ n, l.length = n := ⟨_, rfl⟩
  obtain ⟨m, hmm⟩ : ∃ m, ops.length = m := ⟨_, rfl⟩
  rw [hnn] at hn ⊢
  rw [hmm] at hm ⊢
  have Hn := Lib.hid hnn
  have Hm := Lib.hid hmm
  clear h h2 hT hnn hmm
  go_enter Tryd.func19, Tryd.ntmps19
  go_upto_region 1 with fail
  clear hz
  have hblk : Blk (w.alloc (.cells (numF F0) 54)) w.heap.size 54 (numF F0) := Blk.new _ _ _
  have hbw := below_box w (.cells (numF F0) 54)
  generalize (w.alloc (.cells (numF F0) 54)) = w0 at hblk hbw ⊢
  have HB0 := Lib.hid hbw
  have hbge : w.heap.size ≤ w.heap.size := Nat.le_refl _
  generalize hb : w.heap.size = b at hblk hbge ⊢
  have Hb := Lib.hid hb
  have HK0 := Lib.hid hblk
  clear hblk hbw hb
  go_upto_region 2 with (first
    | (go_at_call 29; (have hc := setsDo_any w0 U A c l (H.out.below HB0.out hU) (Nat.le_trans hU HB0.out.size) (by rw [Hn.out]; exact hn)); rw [Hn.out] at hc; go_fit hc; rintro e w1 ⟨F, r, rfl, hr, hF, hb1⟩; have HR := Lib.hid hr; have HF := Lib.hid hF; have HB1 := Lib.hid hb1; have HK1 := Lib.hid (HK0.out.below hb1 HK0.out.lt); clear hr hF hb1)
    | (refine wpList_put54 rfl _ _ rfl b (fun s u => memB (F0 s) u) (fun s u => memB (F s) u) rfl rfl HK1.out ?_))
  have hk2 : Blk (w1.setRow b (numCells fun s u => memB (F s) u)) b 54 (numF F) := HK1.out.row
  have hb2 : Below w.heap.size w (w1.setRow b (numCells fun s u => memB (F s) u)) := by
    have h1 := below_tr HB0.out (Nat.le_refl _) HB1.out
    exact h1.grown (only_setRow _ _ _) h1.size (fun j hj => by injection hj with hj; rw [← hj]; exact Nat.le_of_eq Hb.out)
  generalize (w1.setRow b (numCells fun s u => memB (F s) u)) = w2 at hk2 hb2 ⊢
  have HK2 := Lib.hid hk2
  have HB2 := Lib.hid hb2
  clear hk2 hb2
  cases r with
  | false =>
    go_upto_region 3 with fail
    refine wp_region_held_drew (S := fun W => W = w2.drew) (by kernel_rfl) rfl (fun _ => ?_)
    refine wpAnyH_take (i := 0) (v := .agg (numCells fun s u => memB (F s) u)) rfl (by kernel_rfl) (by kernel_rfl) (by kernel_rfl) (fun _ _ _ h => h) (yields54 (b := b) (by rfl) (.tmp 5) rfl rfl (fun w hw => by rw [hw]; exact HK2.out)) rfl ?_
    refine wpAnyH_take (i := 1) (v := _) rfl (by kernel_rfl) (by kernel_rfl) (by kernel_rfl) (fun _ _ _ h => h) (Or.inl ⟨by rfl, fun w _ => by rfl⟩) rfl ?_
    refine wpAnyH_ready (rs := [2]) (by kernel_rfl) (by simp) (AllReadyH.cons rfl (fun K hK => ?_) AllReadyH.nil)
    rw [if_pos (by rfl)]
    refine wp_put54 (.tmp 5) (.tmp 27) rfl b (fun s u => memB (F s) u) rfl rfl HK2.out ?_
    refine hK.out _ _ rfl (fun _ => ?_)
    refine wpAnyH_take (i := 3) (v := _) rfl (by kernel_rfl) (by kernel_rfl) (by kernel_rfl) (fun _ _ _ h => h) (Or.inl ⟨by rfl, fun w _ => by rfl⟩) rfl ?_
    refine wpAnyH_take (i := 4) (v := _) rfl (by kernel_rfl) (by kernel_rfl) (by kernel_rfl) (fun _ _ _ h => h) (Or.inl ⟨by rfl, fun w _ => by rfl⟩) rfl ?_
    refine wpAnyH_done (by kernel_rfl) ?_ _
    simp only [Act.put, Act.eval, List.setIfInBounds_toArray]
    go_wp2
    (try simp only [Exit.inBlock, Exit.then])
    refine done_ret (u1 := .slice none 0 0) (u2 := .bool false) (u3 := .bool false) HK2.out.drew ?_ ?_ ?_ ?_ ?_ ?_
    · rfl
    · rfl
    · rfl
    · rfl
    · rfl
    · exact ⟨HB2.out.drew, .inl ⟨F, rfl⟩⟩
  | true =>
    obtain ⟨G, hG⟩ := Option.isSome_iff_exists.1 HR.out.symm
    obtain rfl := HF.out G hG
    have HG := Lib.hid hG
    clear hG
    by_cases hn60 : n ≤ 60
    · obtain ⟨x, hx⟩ : ∃ x, okOps ops l = x := ⟨_, rfl⟩
      have ho := only_any w2 U A A2 c c2 l ops (H.out.below HB2.out hU) (H2.out.below HB2.out) (Nat.le_trans hU HB2.out.size) (by rw [Hn.out]; exact hn) (by rw [Hm.out]; exact hm) hx
      rw [Hn.out, Hm.out] at ho
      have HO := Lib.hid ho
      have Hx := Lib.hid hx
      clear ho hx
      cases x with
      | false =>
        go_upto_region 3 with (go_at_call 26; go_fit HO.out; rintro e w3 ⟨rfl, hb3⟩; have HB3 := Lib.hid (below_tr HB2.out (Nat.le_refl _) hb3); have HK3 := Lib.hid (HK2.out.below hb3 HK2.out.lt); clear hb3)
        refine wp_region_held_drew (S := fun W => W = w3.drew) (by kernel_rfl) rfl (fun _ => ?_)
        refine wpAnyH_take (i := 0) (v := .agg (numCells fun s u => memB (F s) u)) rfl (by kernel_rfl) (by kernel_rfl) (by kernel_rfl) (fun _ _ _ h => h) (yields54 (b := b) (by rfl) (.tmp 5) rfl rfl (fun w hw => by rw [hw]; exact HK3.out)) rfl ?_
        refine wpAnyH_take (i := 1) (v := _) rfl (by kernel_rfl) (by kernel_rfl) (by kernel_rfl) (fun _ _ _ h => h) (Or.inl ⟨by rfl, fun w _ => by rfl⟩) rfl ?_
        refine wpAnyH_ready (rs := [2]) (by kernel_rfl) (by simp) (AllReadyH.cons rfl (fun K hK => ?_) AllReadyH.nil)
        rw [if_pos (by rfl)]
        refine wp_put54 (.tmp 5) (.tmp 27) rfl b (fun s u => memB (F s) u) rfl rfl HK3.out ?_
        refine hK.out _ _ rfl (fun _ => ?_)
        refine wpAnyH_take (i := 3) (v := _) rfl (by kernel_rfl) (by kernel_rfl) (by kernel_rfl) (fun _ _ _ h => h) (Or.inl ⟨by rfl, fun w _ => by rfl⟩) rfl ?_
        refine wpAnyH_take (i := 4) (v := _) rfl (by kernel_rfl) (by kernel_rfl) (by kernel_rfl) (fun _ _ _ h => h) (Or.inl ⟨by rfl, fun w _ => by rfl⟩) rfl ?_
        refine wpAnyH_done (by kernel_rfl) ?_ _
        simp only [Act.put, Act.eval, List.setIfInBounds_toArray]
        go_wp2
        (try simp only [Exit.inBlock, Exit.then])
        refine done_ret (u1 := .slice none 0 0) (u2 := .bool false) (u3 := .bool false) HK3.out.drew ?_ ?_ ?_ ?_ ?_ ?_
        · rfl
        · rfl
        · rfl
        · rfl
        · rfl
        · exact ⟨HB3.out.drew, .inl ⟨F, rfl⟩⟩
      | true =>
        go_upto_region 4 with (go_at_call 26; go_fit HO.out; rintro e w3 ⟨rfl, hb3⟩; have HB3 := Lib.hid (below_tr HB2.out (Nat.le_refl _) hb3); have HK3 := Lib.hid (HK2.out.below hb3 HK2.out.lt); clear hb3)
        go_upto_region 5 with (first
          | (go_at_call 31; (have hc := setTo_any w3 U A c l (H.out.below HB3.out hU) (Nat.le_trans hU HB3.out.size) (by rw [Hn.out]; omega)); rw [Hn.out] at hc; go_fit hc; rintro e w4 ⟨v4, rfl, hown4, hb4⟩; obtain ⟨A4, c4, rfl⟩ := own_slice hown4; have HO4 := Lib.hid hown4; have HB4 := Lib.hid hb4; clear hown4 hb4)
          | (go_at_call 21; go_fit (setAsk_any _); rintro e w5 ⟨v5, rfl, hown5, hb5⟩; obtain ⟨A5, c5, rfl⟩ := own_slice hown5; have HO5 := Lib.hid hown5; have HB5 := Lib.hid hb5; clear hown5 hb5)
          | (go_at_call 30; (have hc := sets_any w5 w5.heap.size A4 A5 c4 c5 l (asksL 145) F (((steps_own HO4.out Hn.out).below HB5.out (Nat.le_refl _)).mono HB5.out.size) (ints_own HO5.out (asksL_length 145)) (Nat.le_refl _) (by rw [Hn.out]; omega) (by rw [asksL_length]; omega) HG.out (HT.out.below (below_tr (below_tr HB3.out (Nat.le_refl _) HB4.out) (Nat.le_refl _) HB5.out))); rw [Hn.out, asksL_length] at hc; go_fit hc; rintro e w6 ⟨tv, y, rfl, hb6, htd⟩; have HB6 := Lib.hid (below_tr (below_tr (below_tr HB3.out (Nat.le_refl _) HB4.out) (Nat.le_refl _) HB5.out) (Nat.le_refl _) hb6); have HK6 := Lib.hid (((HK3.out.below HB4.out HK3.out.lt).below HB5.out (HK3.out.below HB4.out HK3.out.lt).lt).below hb6 ((HK3.out.below HB4.out HK3.out.lt).below HB5.out (HK3.out.below HB4.out HK3.out.lt).lt).lt); have HTD := Lib.hid (htd.mono (show w.heap.size ≤ w5.heap.size from (below_tr (below_tr HB3.out (Nat.le_refl _) HB4.out) (Nat.le_refl _) HB5.out).size)); clear hb6 htd))
        refine wp_region_held_drew (S := fun W => W = w6.drew) (by kernel_rfl) rfl (fun _ => ?_)
        refine wpAnyH_take (i := 0) (v := _) rfl (by kernel_rfl) (by kernel_rfl) (by kernel_rfl) (fun _ _ _ h => h) (Or.inl ⟨by rfl, fun w _ => by rfl⟩) rfl ?_
        refine wpAnyH_take (i := 1) (v := .agg (numCells fun s u => memB (F s) u)) rfl (by kernel_rfl) (by kernel_rfl) (by kernel_rfl) (fun _ _ _ h => h) (yields54 (b := b) (by rfl) (.tmp 5) rfl rfl (fun w hw => by rw [hw]; exact HK6.out)) rfl ?_
        refine wpAnyH_take (i := 2) (v := _) rfl (by kernel_rfl) (by kernel_rfl) (by kernel_rfl) (fun _ _ _ h => h) (Or.inl ⟨by rfl, fun w _ => by rfl⟩) rfl ?_
        refine wpAnyH_take (i := 3) (v := _) rfl (by kernel_rfl) (by kernel_rfl) (by kernel_rfl) (fun _ _ _ h => h) (Or.inl ⟨by rfl, fun w _ => by rfl⟩) rfl ?_
        refine wpAnyH_ready (rs := [4]) (by kernel_rfl) (by simp) (AllReadyH.cons rfl (fun K hK => ?_) AllReadyH.nil)
        rw [if_pos (by rfl)]
        refine wp_put54 (.tmp 5) (.tmp 36) rfl b (fun s u => memB (F s) u) rfl rfl HK6.out ?_
        refine hK.out _ _ rfl (fun _ => ?_)
        refine wpAnyH_take (i := 5) (v := _) rfl (by kernel_rfl) (by kernel_rfl) (by kernel_rfl) (fun _ _ _ h => h) (Or.inl ⟨by rfl, fun w _ => by rfl⟩) rfl ?_
        refine wpAnyH_take (i := 6) (v := _) rfl (by kernel_rfl) (by kernel_rfl) (by kernel_rfl) (fun _ _ _ h => h) (Or.inl ⟨by rfl, fun w _ => by rfl⟩) rfl ?_
        refine wpAnyH_done (by kernel_rfl) ?_ _
        simp only [Act.put, Act.eval, List.setIfInBounds_toArray]
        go_wp2
        (try simp only [Exit.inBlock, Exit.then])
        refine done_ret (u1 := tv) (u2 := .bool y) (u3 := .bool true) HK6.out.drew ?_ ?_ ?_ ?_ ?_ ?_
        · rfl
        · rfl
        · rfl
        · rfl
        · rfl
        · exact ⟨HB6.out.drew, .inr ⟨F, tv, y, HG.out, by rw [Hn.out]; exact hn60, Hx.out, rfl, HTD.out.keep (Below.refl _ _).drew⟩⟩
    · have hn60' : 60 < n := by omega
      go_upto_region 3 with fail
      refine wp_region_held_drew (S := fun W => W = w2.drew) (by kernel_rfl) rfl (fun _ => ?_)
      refine wpAnyH_take (i := 0) (v := .agg (numCells fun s u => memB (F s) u)) rfl (by kernel_rfl) (by kernel_rfl) (by kernel_rfl) (fun _ _ _ h => h) (yields54 (b := b) (by rfl) (.tmp 5) rfl rfl (fun w hw => by rw [hw]; exact HK2.out)) rfl ?_
      refine wpAnyH_take (i := 1) (v := _) rfl (by kernel_rfl) (by kernel_rfl) (by kernel_rfl) (fun _ _ _ h => h) (Or.inl ⟨by rfl, fun w _ => by rfl⟩) rfl ?_
      refine wpAnyH_ready (rs := [2]) (by kernel_rfl) (by simp) (AllReadyH.cons rfl (fun K hK => ?_) AllReadyH.nil)
      rw [if_pos (by rfl)]
      refine wp_put54 (.tmp 5) (.tmp 27) rfl b (fun s u => memB (F s) u) rfl rfl HK2.out ?_
      refine hK.out _ _ rfl (fun _ => ?_)
      refine wpAnyH_take (i := 3) (v := _) rfl (by kernel_rfl) (by kernel_rfl) (by kernel_rfl) (fun _ _ _ h => h) (Or.inl ⟨by rfl, fun w _ => by rfl⟩) rfl ?_
      refine wpAnyH_take (i := 4) (v := _) rfl (by kernel_rfl) (by kernel_rfl) (by kernel_rfl) (fun _ _ _ h => h) (Or.inl ⟨by rfl, fun w _ => by rfl⟩) rfl ?_
      refine wpAnyH_done (by kernel_rfl) ?_ _
      simp only [Act.put, Act.eval, List.setIfInBounds_toArray]
      go_wp2
      (try simp only [Exit.inBlock, Exit.then])
      refine done_ret (u1 := .slice none 0 0) (u2 := .bool false) (u3 := .bool false) HK2.out.drew ?_ ?_ ?_ ?_ ?_ ?_
      · rfl
      · rfl
      · rfl
      · rfl
      · rfl
      · exact ⟨HB2.out.drew, .inl ⟨F, rfl⟩⟩
end Go.Proofs.YtiffjbpejlnndaaDoor
