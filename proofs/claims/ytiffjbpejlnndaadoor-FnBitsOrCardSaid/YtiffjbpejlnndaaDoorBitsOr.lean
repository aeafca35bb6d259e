/-
  PROVED: laws.FnBitsOr answers true at every five slices of ints, and leaves them as they were: the row, and the card that ties the three tables of the library to the program's text. Conditions: those of the given row.
-/
import Derived.Test.YtiffjbpejlnndaaDoorOrRow0
namespace Go.Proofs.YtiffjbpejlnndaaDoor
namespace BitsOr
open Go.ChangeShapes Go.WideShapes Go.ChangeAt Go.RowKit Go.Shelf
open Go.ChangeMaps (open_string shut_string)

theorem own : ownKnob Tryd.prog.godebug = none := by kernel_rfl
theorem laid_eq : Rows.fnBitsOrRow.laid = [("math/bits.deBruijn32tab", Rows.laid_math_bits_deBruijn32tab), ("math/bits.deBruijn64tab", Rows.laid_math_bits_deBruijn64tab), ("internal/strconv.uint64pow10", Rows.laid_internal_strconv_uint64pow10)] := by kernel_rfl
theorem tabs {W : World} (h : laidMetH Tryd.prog Rows.fnBitsOrRow.laid W) : Tabs W := by
  rw [MakeChecks.laidMetH_plain _ _ _ (by kernel_rfl), laid_eq] at h
  exact tabs_of_laid h
theorem walk (w : World) (U : Nat) (A1 A2 A3 A4 A5 : Option Addr) (c1 c2 c3 c4 c5 : Nat) (l1 l2 l3 l4 l5 : List Int) (ha : OrArgs w U A1 A2 A3 A4 A5 l1 l2 l3 l4 l5) (hT : Tabs w) :
    Calls Tryd.prog 5 #[.slice A1 l1.length c1, .slice A2 l2.length c2, .slice A3 l3.length c3, .slice A4 l4.length c4, .slice A5 l5.length c5] w (Saw w (.bool true)) := by
  by_cases hbig : 2147483647 < l1.length ∨ 2147483647 < l2.length ∨ 2147483647 < l3.length ∨ 2147483647 < l4.length ∨ 2147483647 < l5.length
  · exact or_big w A1 A2 A3 A4 A5 c1 c2 c3 c4 c5 _ _ _ _ _ hbig
  · by_cases hno : ((okB 200 l1 && okB 200 l2) = false) ∨ ((okB 200 l3 && okB 200 l4) = false) ∨ 100 < l1.length + l3.length ∨ 100 < l2.length + l4.length ∨ (okB 300 l5 && decide (l5.length ≤ 100)) = false
    · exact or_no w U A1 A2 A3 A4 A5 c1 c2 c3 c4 c5 l1 l2 l3 l4 l5 ha hT (by omega) (by omega) (by omega) (by omega) (by omega) hno
    · have h1 : (okB 200 l1 && okB 200 l2) = true := by
        cases h : (okB 200 l1 && okB 200 l2)
        · exact absurd (.inl h) hno
        · rfl
      have h2 : (okB 200 l3 && okB 200 l4) = true := by
        cases h : (okB 200 l3 && okB 200 l4)
        · exact absurd (.inr (.inl h)) hno
        · rfl
      have h5 : (okB 300 l5 && decide (l5.length ≤ 100)) = true := by
        cases h : (okB 300 l5 && decide (l5.length ≤ 100))
        · exact absurd (.inr (.inr (.inr (.inr h)))) hno
        · rfl
      have h3 : l1.length + l3.length ≤ 100 := by
        rcases Nat.lt_or_ge 100 (l1.length + l3.length) with h | h
        · exact absurd (.inr (.inr (.inl h))) hno
        · exact h
      have h4 : l2.length + l4.length ≤ 100 := by
        rcases Nat.lt_or_ge 100 (l2.length + l4.length) with h | h
        · exact absurd (.inr (.inr (.inr (.inl h)))) hno
        · exact h
      exact or_yes w U A1 A2 A3 A4 A5 c1 c2 c3 c4 c5 l1 l2 l3 l4 l5 ha hT h1 h2 h3 h4 h5
set_option maxRecDepth 100000 in
theorem lifted (os : Os) (started : os.Started) (H : Type) (enc : TypeId × Value → H) :
    ReturnsInHanded {} Tryd.checked os 5 .any (fun w args => (Rows.fnBitsOrSpec.pre enc Tryd.prog Tryd.f5 Rows.fnBitsOrRow.domain false w args ∧ laidMetH Tryd.prog Rows.fnBitsOrRow.laid w) ∧ sizedMet enc Tryd.prog Tryd.f5 (OpenSpec.ofChange Rows.fnBitsOrSpec) false w args)
      (Rows.fnBitsOrSpec.post enc Tryd.prog Tryd.f5 false true false false) := by
  refine returnsInHanded_of_change_and (C := Tryd.checked) (X := fun w _ => laidMetH Tryd.prog Rows.fnBitsOrRow.laid w) (fun _ _ _ hh h => h.of_heap hh) own started (by kernel_rfl) Tryd.func5
    (ChangeSpec.witness_shaped (enc := enc) (C := Tryd.checked) (os := os) (X := fun w _ => laidMetH Tryd.prog Rows.fnBitsOrRow.laid w) false (World.laidAll Tryd.prog os Rows.fnBitsOrRow.laid) #[.slice none 0 0, .slice none 0 0, .slice none 0 0, .slice none 0 0, .slice none 0 0] 8 (World.laidAll_os _ _ _)
      (World.shaped_of_ZipB (by kernel_rfl) (by kernel_rfl)) (by kernel_rfl) (by kernel_rfl) (by kernel_rfl)
      (by rw [MakeChecks.laidMetH_plain _ _ _ (by kernel_rfl)]; exact laidMet_laidAll _ (by kernel_rfl) (by kernel_rfl))) ?_
  intro W base args ds gs before hval0 hW hc _ hL _
  have hval : ∀ (j : Nat) t v, Tryd.f5.params[j]? = some t → args[j]? = some v → Value.okWide Tryd.prog W .any base t v := hval0
  have hW' := hW
  obtain ⟨p, q, hA0, hV, rfl, _, _⟩ := hW
  have hA : DataW.TrodAll enc Tryd.prog W 0 (fun _ => true) true Tryd.f5.params.toList args.toList ds p := hA0
  rw [Tryd.params5] at hA hval
  have hAll := hA
  obtain ⟨v0, vs1, d0, ds1, p0, q0, hv0, hd0, hp0, h0, hA1⟩ := trodAll_cons hA
  obtain ⟨v1, vs2, d1, ds2, p1, q1, hv1, hd1, hp1, h1, hA2⟩ := trodAll_cons hA1
  obtain ⟨v2, vs3, d2, ds3, p2, q2, hv2, hd2, hp2, h2, hA3⟩ := trodAll_cons hA2
  obtain ⟨v3, vs4, d3, ds4, p3, q3, hv3, hd3, hp3, h3, hA4⟩ := trodAll_cons hA3
  obtain ⟨v4, vs5, d4, ds5, p4, q4, hv4, hd4, hp4, h4, hA5⟩ := trodAll_cons hA4
  obtain ⟨hv5, hd5, hp5⟩ := trodAll_nil hA5
  subst hv5 hd5 hv4 hd4 hv3 hd3 hv2 hd2 hv1 hd1 hd0
  have hargs : args = #[v0, v1, v2, v3, v4] := by apply Array.toList_inj.1; exact hv0
  subst hargs
  obtain ⟨rfl, rfl⟩ := trodVars_none hV
  obtain ⟨A1, c1, l1, rfl, i1⟩ := ints_in (hval 0 29 v0 rfl rfl) h0
  obtain ⟨A2, c2, l2, rfl, i2⟩ := ints_in (hval 1 29 v1 rfl rfl) h1
  obtain ⟨A3, c3, l3, rfl, i3⟩ := ints_in (hval 2 29 v2 rfl rfl) h2
  obtain ⟨A4, c4, l4, rfl, i4⟩ := ints_in (hval 3 29 v3 rfl rfl) h3
  obtain ⟨A5, c5, l5, rfl, i5⟩ := ints_in (hval 4 29 v4 rfl rfl) h4
  have hT := tabs hL
  simp only [List.append_nil] at hW'
  refine (walk W W.heap.size A1 A2 A3 A4 A5 c1 c2 c3 c4 c5 l1 l2 l3 l4 l5 ⟨i1, i2, i3, i4, i5, Nat.le_refl _⟩ hT).mono fun e W' ⟨he, hb⟩ => ?_
  subst he
  have hlt : ∀ x ∈ p, x.block < W.heap.size := fun x hx => hW'.lt x hx
  refine ⟨_, rfl, post_of_below (pa := p) (pv := []) hW' (fun _ _ _ => trodAll_mk1 (shut_bool Tryd.underlying4 _)) (fun sp hsp => ?_) (fun _ _ => rfl) (by simp) hb (ok_one (by kernel_rfl) rfl (okWide_bool_mk Tryd.underlying4 _))⟩
  have := all_stays (W' := W') (sp := sp) _ _ _ p (by
    intro t ht
    have ht' : t = 29 := by simpa using ht
    subst ht'
    exact ⟨by kernel_rfl, of_decide_eq_true (by kernel_rfl)⟩) hAll (fun x hx => hb.same (hlt x hx)) hsp
  rw [Tryd.params5]
  exact this

theorem said : Rows.FnBitsOrSaid :=
  OpenClaim.holds_of_wide 5 Tryd.f5 rfl rfl rfl rfl rfl rfl rfl ⟨rfl, rfl, rfl, rfl, rfl⟩ rfl rfl rfl rfl rfl (by kernel_rfl) Tryd.func5 (by kernel_rfl)
    (of_decide_eq_true (by kernel_rfl)) (by unfold Func.isWrapper; first | (rw [if_pos (by decide +kernel)]; kernel_rfl) | (rw [if_neg (by decide +kernel)]; exact ⟨rfl, rfl⟩))
    (fun os started H enc _ => lifted os started H enc)

theorem plain (f : FuncId) (fn : Func) (hf : Tryd.pinned.checked.prog.funcNamed "pub-hermeneut/laws.FnBitsOr" = some f) (hfn : Tryd.pinned.checked.prog.funcs[f]? = some fn) :
    true = Tryd.pinned.checked.prog.looks [] ∧ ∀ (j : Nat) t, fn.params[j]? = some t → Tryd.pinned.checked.prog.wantsStandIn t = false := by
  obtain rfl : f = 5 := Option.some.inj ((show Tryd.prog.funcNamed "pub-hermeneut/laws.FnBitsOr" = some 5 by kernel_rfl).symm.trans hf) |>.symm
  obtain rfl : fn = Tryd.f5 := (Option.some.inj (Tryd.func5.symm.trans hfn)).symm
  refine ⟨by kernel_rfl, fun j t ht => ?_⟩
  rw [Tryd.params5] at ht
  have hm : t ∈ [29, 29, 29, 29, 29] := by simpa using Array.mem_of_getElem? ht
  have hall : ([29, 29, 29, 29, 29].all fun u => !Tryd.prog.wantsStandIn u) = true := by kernel_rfl
  exact (show Tryd.prog.wantsStandIn t = false by simpa using List.all_eq_true.1 hall t hm)

theorem card : Rows.FnBitsOrCardSaid :=
  Claim7.holds_tied_plain_at .later [] _ _ _ _ said (fun _ h => by cases h) (by kernel_rfl) (fun _ h => by cases h) fnBitsOr_row_tie rfl ⟨rfl, rfl⟩ (by kernel_rfl) rfl plain (by kernel_rfl)
#print axioms card
end BitsOr
end Go.Proofs.YtiffjbpejlnndaaDoor
