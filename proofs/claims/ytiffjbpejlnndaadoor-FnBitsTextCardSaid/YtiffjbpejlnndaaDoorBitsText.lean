/-
  PROVED: laws.FnBitsText answers true at every two slices of ints, and leaves them as they were: the row, and the card that ties the three tables of the library to the program's text. Conditions: those of the given row.
-/
import Derived.Test.YtiffjbpejlnndaaDoorOrRow0
import Derived.Test.YtiffjbpejlnndaaDoorTx2
namespace Go.Proofs.YtiffjbpejlnndaaDoor
namespace BitsText
open Go.ChangeShapes Go.WideShapes Go.ChangeAt Go.RowKit Go.Shelf
open Go.ChangeMaps (open_string shut_string)

theorem own : ownKnob Tryd.prog.godebug = none := by kernel_rfl
theorem laid_eq : Rows.fnBitsTextRow.laid = [("math/bits.deBruijn32tab", Rows.laid_math_bits_deBruijn32tab), ("math/bits.deBruijn64tab", Rows.laid_math_bits_deBruijn64tab), ("internal/strconv.uint64pow10", Rows.laid_internal_strconv_uint64pow10)] := by kernel_rfl
theorem tabs {W : World} (h : laidMetH Tryd.prog Rows.fnBitsTextRow.laid W) : Tabs W := by
  rw [MakeChecks.laidMetH_plain _ _ _ (by kernel_rfl), laid_eq] at h
  exact tabs_of_laid h
theorem walk (w : World) (U : Nat) (A1 A2 : Option Addr) (c1 c2 : Nat) (l1 l2 : List Int) (h1 : IntsAt w U A1 l1) (h2 : IntsAt w U A2 l2) (hU : U ≤ w.heap.size) (hT : Tabs w) :
    Calls Tryd.prog 6 #[.slice A1 l1.length c1, .slice A2 l2.length c2] w (Saw w (.bool true)) := by
  by_cases hbig : 2147483647 < l1.length ∨ 2147483647 < l2.length
  · exact tx_big w A1 A2 c1 c2 _ _ hbig
  · by_cases hno : (okB 200 l1) = false ∨ (okB 200 l2) = false ∨ 100 < l1.length + l2.length
    · exact tx_no w U A1 A2 c1 c2 l1 l2 h1 h2 hU hT (by omega) (by omega) hno
    · have k1 : okB 200 l1 = true := by
        cases h : okB 200 l1
        · exact absurd (.inl h) hno
        · rfl
      have k2 : okB 200 l2 = true := by
        cases h : okB 200 l2
        · exact absurd (.inr (.inl h)) hno
        · rfl
      have k3 : l1.length + l2.length ≤ 100 := by
        rcases Nat.lt_or_ge 100 (l1.length + l2.length) with h | h
        · exact absurd (.inr (.inr h)) hno
        · exact h
      exact tx_yes w U A1 A2 c1 c2 l1 l2 h1 h2 hU hT k1 k2 k3
set_option maxRecDepth 100000 in
theorem lifted (os : Os) (started : os.Started) (H : Type) (enc : TypeId × Value → H) :
    ReturnsInHanded {} Tryd.checked os 6 .any (fun w args => (Rows.fnBitsTextSpec.pre enc Tryd.prog Tryd.f6 Rows.fnBitsTextRow.domain false w args ∧ laidMetH Tryd.prog Rows.fnBitsTextRow.laid w) ∧ sizedMet enc Tryd.prog Tryd.f6 (OpenSpec.ofChange Rows.fnBitsTextSpec) false w args)
      (Rows.fnBitsTextSpec.post enc Tryd.prog Tryd.f6 false true false false) := by
  refine returnsInHanded_of_change_and (C := Tryd.checked) (X := fun w _ => laidMetH Tryd.prog Rows.fnBitsTextRow.laid w) (fun _ _ _ hh h => h.of_heap hh) own started (by kernel_rfl) Tryd.func6
    (ChangeSpec.witness_shaped (enc := enc) (C := Tryd.checked) (os := os) (X := fun w _ => laidMetH Tryd.prog Rows.fnBitsTextRow.laid w) false (World.laidAll Tryd.prog os Rows.fnBitsTextRow.laid) #[.slice none 0 0, .slice none 0 0] 8 (World.laidAll_os _ _ _)
      (World.shaped_of_ZipB (by kernel_rfl) (by kernel_rfl)) (by kernel_rfl) (by kernel_rfl) (by kernel_rfl)
      (by rw [MakeChecks.laidMetH_plain _ _ _ (by kernel_rfl)]; exact laidMet_laidAll _ (by kernel_rfl) (by kernel_rfl))) ?_
  intro W base args ds gs before hval0 hW hc _ hL _
  have hval : ∀ (j : Nat) t v, Tryd.f6.params[j]? = some t → args[j]? = some v → Value.okWide Tryd.prog W .any base t v := hval0
  have hW' := hW
  obtain ⟨p, q, hA0, hV, rfl, _, _⟩ := hW
  have hA : DataW.TrodAll enc Tryd.prog W 0 (fun _ => true) true Tryd.f6.params.toList args.toList ds p := hA0
  rw [Tryd.params6] at hA hval
  have hAll := hA
  obtain ⟨v0, vs1, d0, ds1, p0, q0, hv0, hd0, hp0, h0, hA1⟩ := trodAll_cons hA
  obtain ⟨v1, vs2, d1, ds2, p1, q1, hv1, hd1, hp1, h1, hA2⟩ := trodAll_cons hA1
  obtain ⟨hv2, hd2, hp2⟩ := trodAll_nil hA2
  subst hv2 hd2 hv1 hd1 hd0
  have hargs : args = #[v0, v1] := by apply Array.toList_inj.1; exact hv0
  subst hargs
  obtain ⟨rfl, rfl⟩ := trodVars_none hV
  obtain ⟨A1, c1, l1, rfl, i1⟩ := ints_in (hval 0 29 v0 rfl rfl) h0
  obtain ⟨A2, c2, l2, rfl, i2⟩ := ints_in (hval 1 29 v1 rfl rfl) h1
  have hT := tabs hL
  simp only [List.append_nil] at hW'
  refine (walk W W.heap.size A1 A2 c1 c2 l1 l2 i1 i2 (Nat.le_refl _) hT).mono fun e W' ⟨he, hb⟩ => ?_
  subst he
  have hlt : ∀ x ∈ p, x.block < W.heap.size := fun x hx => hW'.lt x hx
  refine ⟨_, rfl, post_of_below (pa := p) (pv := []) hW' (fun _ _ _ => trodAll_mk1 (shut_bool Tryd.underlying4 _)) (fun sp hsp => ?_) (fun _ _ => rfl) (by simp) hb (ok_one (by kernel_rfl) rfl (okWide_bool_mk Tryd.underlying4 _))⟩
  have := all_stays (W' := W') (sp := sp) _ _ _ p (by
    intro t ht
    have ht' : t = 29 := by simpa using ht
    subst ht'
    exact ⟨by kernel_rfl, of_decide_eq_true (by kernel_rfl)⟩) hAll (fun x hx => hb.same (hlt x hx)) hsp
  rw [Tryd.params6]
  exact this

theorem said : Rows.FnBitsTextSaid :=
  OpenClaim.holds_of_wide 6 Tryd.f6 rfl rfl rfl rfl rfl rfl rfl ⟨rfl, rfl, rfl, rfl, rfl⟩ rfl rfl rfl rfl rfl (by kernel_rfl) Tryd.func6 (by kernel_rfl)
    (of_decide_eq_true (by kernel_rfl)) (by unfold Func.isWrapper; first | (rw [if_pos (by decide +kernel)]; kernel_rfl) | (rw [if_neg (by decide +kernel)]; exact ⟨rfl, rfl⟩))
    (fun os started H enc _ => lifted os started H enc)

theorem plain (f : FuncId) (fn : Func) (hf : Tryd.pinned.checked.prog.funcNamed "pub-hermeneut/laws.FnBitsText" = some f) (hfn : Tryd.pinned.checked.prog.funcs[f]? = some fn) :
    true = Tryd.pinned.checked.prog.looks [] ∧ ∀ (j : Nat) t, fn.params[j]? = some t → Tryd.pinned.checked.prog.wantsStandIn t = false := by
  obtain rfl : f = 6 := Option.some.inj ((show Tryd.prog.funcNamed "pub-hermeneut/laws.FnBitsText" = some 6 by kernel_rfl).symm.trans hf) |>.symm
  obtain rfl : fn = Tryd.f6 := (Option.some.inj (Tryd.func6.symm.trans hfn)).symm
  refine ⟨by kernel_rfl, fun j t ht => ?_⟩
  rw [Tryd.params6] at ht
  have hm : t ∈ [29, 29] := by simpa using Array.mem_of_getElem? ht
  have hall : ([29, 29].all fun u => !Tryd.prog.wantsStandIn u) = true := by kernel_rfl
  exact (show Tryd.prog.wantsStandIn t = false by simpa using List.all_eq_true.1 hall t hm)

theorem card : Rows.FnBitsTextCardSaid :=
  Claim7.holds_tied_plain_at .later [] _ _ _ _ said (fun _ h => by cases h) (by kernel_rfl) (fun _ h => by cases h) fnBitsText_row_tie rfl ⟨rfl, rfl⟩ (by kernel_rfl) rfl plain (by kernel_rfl)
#print axioms card
end BitsText
end Go.Proofs.YtiffjbpejlnndaaDoor
