/-
  A bit set's text. Conditions: as in Bit6; at most 16 words.
-/
import Derived.Test.YtiffjbpejlnndaaDoorBit6
import Derived.Laws.Concat
namespace Go.Proofs.YtiffjbpejlnndaaDoor
open Go.RowKit

def numText (v : Nat) : ByteArray := ⟨(Lib.itoa (v : Int)).toArray⟩
def strs (l : List Nat) : List Value := l.map fun v : Nat => Value.string (numText v)
theorem info9 : (Tryd.prog.info? 9).map (fun i => (i.zero, i.size, i.bytes)) = some (some (.string ByteArray.empty), 1, 16) := by kernel_rfl
theorem strs_snoc (l : List Nat) (v : Nat) : strs (l ++ [v]) = strs l ++ [.string (numText v)] := by simp [strs]

theorem itoa_any (w : World) (n v : Nat) (m : Int) (hm : m = (v : Int)) (hv : v ≤ n) (hn : n ≤ 1000000) (hT : Tabs w) : Calls Tryd.prog 102 #[.int .i64 m] w fun e w' => e = .returned (.string (numText v)) ∧ Below w.heap.size w w' := by
  subst hm
  refine (Tryd.strconv_Itoa v (by omega) (by omega) w hT.2).mono ?_
  rintro e w' ⟨he, k, os, rfl⟩
  exact ⟨he, Lib.below_grow _ w (Nat.le_refl _) k os⟩

theorem own_below {w w' : World} {base : Nat} {e : TypeId} {size n : Nat} {v : Value} {xs : List Value} (h : w.ownsRow base e size v n xs) (hb : Below w.heap.size w w') : w'.ownsRow base e size v n xs :=
  h.kept (only_of_below hb none) (by cases v.ownBlock <;> simp)
theorem own_form {w : World} {base : Nat} {e : TypeId} {size n : Nat} {v : Value} {xs : List Value} (h : w.ownsRow base e size v n xs) :
    (n = 0 ∧ ∃ a c, v = .slice a 0 c) ∨ ∃ g c, v = .slice (some ⟨g, 0, none⟩) n c ∧ base ≤ g ∧ g < w.heap.size ∧ n ≤ c ∧ ∀ (j : Nat) u, xs[j]? = some u → w.cell? ⟨g, j, none⟩ = some u := by
  have hc := fun g hg => h.cells (g := g) hg
  rcases h.2 with ⟨rfl, rfl⟩ | ⟨g, cap, cur, rfl, hb, hh, hcap, _⟩
  · exact .inl ⟨rfl, _, _, rfl⟩
  · refine .inr ⟨g, cap, rfl, hb, (Array.getElem?_eq_some_iff.1 hh).1, hcap, fun j u hj => ?_⟩
    rw [← add_new]
    exact hc g rfl j u hj

def textB (l : List Nat) : ByteArray := ⟨#[123]⟩ ++ ⟨(Lib.join (l.map fun v : Nat => (numText v).data.toList) [44, 32]).toArray⟩ ++ ⟨#[125]⟩

theorem one_str (s : ByteArray) : ∀ u ∈ [Value.string s], u.oneCell' = true := by
  intro u hu
  simp at hu
  subst hu
  rfl
theorem size_two {w wr w2 : World} (h : Below w.heap.size w wr) (h2 : Below wr.heap.size wr w2) (o : Obj) : w.heap.size ≤ (w2.alloc o).heap.size := by
  have h1 := h.size
  have h2 := h2.size
  simp
  omega
theorem decDigits_le : ∀ f u : Nat, u < 10 ^ f → 0 < f → (Lib.decDigits u).length ≤ f
  | 0, _, _, h => by omega
  | f + 1, u, hu, _ => by
    unfold Lib.decDigits
    split
    · simp
    · rw [List.length_append]
      have : u / 10 < 10 ^ f := by rw [Nat.pow_succ] at hu; omega
      have hf : 0 < f := by
        rcases Nat.eq_zero_or_pos f with h0 | h0
        · subst h0; simp at this; omega
        · exact h0
      have := decDigits_le f (u / 10) this hf
      simp
      omega
theorem join_le (sep : List UInt8) (m : Nat) : ∀ l : List (List UInt8), (∀ x ∈ l, x.length ≤ m) → (Lib.join l sep).length ≤ l.length * (m + sep.length)
  | [], _ => by simp [Lib.join_nil]
  | x :: r, h => by
    rw [Lib.join_cons, List.length_append]
    have hx := h x List.mem_cons_self
    have hr : (Lib.joinTail sep r).length ≤ r.length * (m + sep.length) := by
      have hh : ∀ y ∈ r, y.length ≤ m := fun y hy => h y (List.mem_cons_of_mem _ hy)
      clear hx h
      induction r with
      | nil => simp [Lib.joinTail]
      | cons y r ih =>
        have h1 := ih fun z hz => hh z (List.mem_cons_of_mem _ hz)
        have h2 := hh y List.mem_cons_self
        unfold Lib.joinTail at h1 ⊢
        rw [List.map_cons, List.flatten_cons, List.length_append, List.length_append, List.length_cons, Nat.succ_mul]
        omega
    rw [List.length_cons, Nat.succ_mul]
    omega
theorem join_size (l : List Nat) (hl : l.length ≤ 1100) (hb : ∀ x ∈ l, x ≤ 2000) : (Lib.join (l.map fun v : Nat => (numText v).data.toList) [44, 32]).length ≤ 7700 := by
  refine Nat.le_trans (join_le _ 5 _ ?_) ?_
  · intro x hx
    simp only [List.mem_map] at hx
    obtain ⟨y, hy, rfl⟩ := hx
    have := hb y hy
    show (Lib.itoa (y : Int)).toArray.toList.length ≤ 5
    have e : Lib.itoa (y : Int) = Lib.decDigits y := by
      unfold Lib.itoa
      rw [if_neg (by omega)]
      rfl
    rw [e]
    exact decDigits_le 5 y (by omega) (by omega)
  · simp only [List.length_map]
    show l.length * (5 + 2) ≤ _
    omega
theorem join_any (w : World) {base : Nat} {v : Value} {l : List Nat} (h : w.ownsRow base 9 1 v l.length (strs l)) (hl : l.length ≤ 1100) (hb : ∀ x ∈ l, x ≤ 2000) :
    Calls Tryd.prog 103 #[v, .string ⟨#[44, 32]⟩] w fun e w' => e = .returned (.string ⟨(Lib.join (l.map fun v : Nat => (numText v).data.toList) [44, 32]).toArray⟩) ∧ Below w.heap.size w w' := by
  rcases own_form h with ⟨h0, a, c, rfl⟩ | ⟨g, c, rfl, _, hg, hc, hcell⟩
  · obtain rfl : l = [] := List.eq_nil_of_length_eq_zero h0
    refine (Tryd.strings_Join_none a c ⟨#[44, 32]⟩ w).mono ?_
    rintro e w' ⟨he, rfl⟩
    exact ⟨he, Below.refl _ _⟩
  · have hlen : (l.map numText).length = l.length := List.length_map ..
    have := Tryd.strings_Join g 0 c (l.map numText) ⟨#[44, 32]⟩ w (by
      intro j x hj
      rw [Nat.zero_add]
      apply hcell
      simp only [List.getElem?_map, Option.map_eq_some_iff] at hj
      obtain ⟨y, hy, rfl⟩ := hj
      simp [strs, hy]) hg (by omega) (by omega) (by
        rw [List.map_map]
        have := join_size l hl hb
        exact Nat.le_trans this (by omega))
    rw [hlen] at this
    rw [List.map_map] at this
    exact this

set_option maxRecDepth 100000 in
set_option maxHeartbeats 1000000 in
theorem text_v (w : World) (U b : Nat) (ws : List Nat) (h : BV w U b ws) (hn : ws.length ≤ 16) (hT : Tabs w) :
    Calls Tryd.prog 78 #[.pointer (some ⟨b, 0, none⟩)] w fun e w' => e = .returned (.string (textB (els ws ws.length))) ∧ Below w.heap.size w w' := by
  obtain ⟨A, c0, h1⟩ := h.row
  have H := Lib.hid h
  have H1 := Lib.hid h1
  have Hs := sumB_le ws ws.length
  rw [List.take_length] at Hs
  obtain ⟨n, hnn⟩ : ∃ n, ws.length = n := ⟨_, rfl⟩
  obtain ⟨sm, hsm⟩ : ∃ sm, sumB ws = sm := ⟨_, rfl⟩
  have Hsm := Lib.hid hsm
  rw [hsm] at Hs
  rw [hnn] at c0 hn Hs ⊢
  have Hnn := Lib.hid hnn
  have HT := Lib.hid hT
  obtain ⟨i0, hi0, hz0, hz1, hz2⟩ := info_parts info9
  clear h1 h hnn hT hsm
  go_enter Tryd.func78, Tryd.ntmps78
  go_wp2_with (first
    | (go_at_call 77; go_fit (length_v _ _ b ws H.out (by have := Hnn.out; omega)); rw [Hsm.out]; rintro e w' ⟨rfl, rfl⟩)
    | (at_make; refine wpList_make_own _ rfl _ _ 137 rfl w.heap.size 9 i0 _ 1 Tryd.underlying137 hi0 hz0 hz1 _ _ _ sm rfl rfl (by omega) (by rw [hz2]; omega) (by unfold maxLen; omega) (Nat.le_refl _) ?_; intro w1 hown hgrow; have hb1 : Below w.heap.size w w1 := ⟨hgrow.os, hgrow.tape, hgrow.output, hgrow.size, fun i hi => hgrow.block i hi (by simp)⟩; have c1 := (hb1.cell (p := ⟨b, 0, none⟩) (World.block_lt_of_cell? w _ c0)).trans c0; have HB1 := Lib.hid hb1; have HO1 := Lib.hid hown; clear hown hgrow hb1))
  go_loopw [3, 15] (fun s3 s15 wr => ∃ k : Nat, k ≤ n ∧ s15 = .int .i64 (k : Int) ∧ wr.ownsRow w.heap.size 9 1 s3 (els ws k).length (strs (els ws k)) ∧ Below w.heap.size w wr) (fun _ s15 _ => n - (intOf s15).toNat)
  case atStart => exact ⟨0, Nat.zero_le _, rfl, HO1.out, HB1.out⟩
  case round =>
    obtain ⟨k, hk, rfl, hown, hb⟩ := hrel
    have HO := Lib.hid hown
    have HB := Lib.hid hb
    clear hown hb
    by_cases hlt : k < n
    · obtain ⟨d, rfl, x, hx, hxb, c2⟩ := H1.out k (by rw [Hnn.out]; exact hlt)
      have c3 := (HB.out.cell (p := ⟨d, k, none⟩) (World.block_lt_of_cell? w _ c2)).trans c2
      have Hx := Lib.hid hx
      clear hx
      go_wp2
      go_loopw [3, 5] (fun s3 s5 wq => ∃ (y : Nat) (done : List Nat), s5 = .int .u64 (y : Int) ∧ y < 18446744073709551616 ∧ Hid (els ws (k + 1) = done ++ (bitsW y).map (64 * k + ·)) ∧ wq.ownsRow w.heap.size 9 1 s3 done.length (strs done) ∧ Below w.heap.size w wq) (fun _ s5 _ => (intOf s5).toNat)
      case atStart => exact ⟨x, els ws k, rfl, hxb, by rw [← Hx.out]; exact els_succ ws k, HO.out, HB.out⟩
      case round =>
        obtain ⟨y, done, rfl, hyb, hd, hown, hb⟩ := hrel
        have HOq := Lib.hid hown
        have HBq := Lib.hid hb
        clear hown hb
        by_cases hy0 : y = 0
        · subst hy0
          have he : els ws (k + 1) = done := by rw [hd.out, bitsW_zero]; simp
          have He := Lib.hid he
          clear he
          go_wp2
          go_roundw
          case rel => exact ⟨k + 1, by omega, rfl, by rw [He.out]; exact HOq.out, HBq.out⟩
          case measure =>
            simp [intOf]
            omega
        · obtain ⟨c, hc⟩ : ∃ c, Lib.ctz 64 y = c := ⟨_, rfl⟩
          have hb1 := bitsW_ctz y hy0 hyb
          have hb2 := dropW_lt y hy0 hyb
          have hcl : c < 64 := by
            have := bitsW_ctz y hy0 hyb
            have hm : Lib.ctz 64 y ∈ bitsW y := by rw [this]; exact List.mem_cons_self
            unfold bitsW at hm
            rw [hc, List.mem_filter, List.mem_range] at hm
            exact hm.1
          rw [hc] at hb1 hb2
          obtain ⟨y2, hy2⟩ : ∃ y2, dropW y c = y2 := ⟨_, rfl⟩
          rw [hy2] at hb1 hb2
          have hlen : done.length ≤ 64 * (k + 1) := by
            have h1 := congrArg List.length hd.out
            have h2 : (els ws (k + 1)).length ≤ 64 * (k + 1) := by
              unfold els
              exact Nat.le_trans (List.length_filter_le _ _) (by simp)
            rw [List.length_append] at h1
            omega
          have hnext : els ws (k + 1) = (done ++ [64 * k + c]) ++ (bitsW y2).map (64 * k + ·) := by
            rw [hd.out, hb1]
            simp
          have hmb := two_pow_lt hcl
          obtain ⟨m, hm⟩ : ∃ m, 2 ^ c = m := ⟨_, rfl⟩
          rw [hm] at hmb
          have hsh : IntKind.u64.wrap (2 ^ c) = (m : Int) := by
            rw [show (2 : Int) ^ c = ((2 ^ c : Nat) : Int) from (Int.natCast_pow 2 c).symm, hm]
            exact u64_w m hmb
          have hnot := u64_not m hmb
          obtain ⟨mm, hmm⟩ : ∃ mm, 18446744073709551615 - m = mm := ⟨_, rfl⟩
          rw [hmm] at hnot
          have hand : bits BinOp.and IntKind.u64 (y : Int) (mm : Int) = (y2 : Int) := by
            rw [u64_and_nat y mm hyb (by omega), ← hy2, dropW, hm, hmm]
          have Hc := Lib.hid hc
          have Hnext := Lib.hid hnext
          have Hb2 := Lib.hid hb2
          have hyb2 : y2 < 18446744073709551616 := by omega
          clear hc hnext hb2 hb1 hm hmm hy2 hd
          go_wp2_with (first
            | (go_at_call 101; go_fit (ctz_any _ y hyb (HT.out.below HBq.out)); rw [Hc.out]; rintro e w' ⟨rfl, rfl⟩)
            | (go_at_call 102; go_fit (itoa_any _ 2000 (64 * k + c) ((k : Int) * 64 + (c : Int)) (by omega) (by omega) (by omega) (HT.out.below HBq.out)); rintro e w2 ⟨rfl, hb2⟩; have HB2 := Lib.hid hb2; clear hb2)
            | (at_builtin; refine wpList_append_own _ rfl (.tmp 24) (.tmp 30) 137 rfl w.heap.size 9 i0 _ 1 16 Tryd.underlying137 hi0 hz0 hz1 hz2 rfl (by decide) _ _ _ rfl ((own_below HOq.out HB2.out).alloc _) ⟨w2.heap.size, 0, none⟩ 1 1 [.string (numText (64 * k + c))] rfl rfl (cells_new w2 [.string (numText (64 * k + c))] 9 _ rfl) (one_str _) (by unfold maxLen; omega) (by omega) (size_two HBq.out HB2.out _) ?_; intro v' w3 hown' hgrow _))
          rw [← strs_snoc] at hown'
          have hbb : Below w.heap.size w w3 := ((HBq.out.trans (HB2.out.mono HBq.out.size)).alloc (Nat.le_trans HBq.out.size HB2.out.size) _).grown hgrow (size_two HBq.out HB2.out _) (fun j hj => (HOq.out.lt j hj).1)
          have hval : bits BinOp.and IntKind.u64 (y : Int) (bits BinOp.xor IntKind.u64 (if IntKind.u64.signed = true then -1 else IntKind.u64.max) (m : Int)) = (y2 : Int) := by
            show bits BinOp.and IntKind.u64 (y : Int) (bits BinOp.xor IntKind.u64 IntKind.u64.max (m : Int)) = (y2 : Int)
            rw [hnot, hand]
          rw [hval]
          go_roundw
          case rel => exact ⟨y2, done ++ [64 * k + c], rfl, hyb2, Hnext, by rw [List.length_append]; exact hown', hbb⟩
          case measure =>
            have := Hb2.out
            simp [intOf]
            omega
    · have hkn : k = n := by omega
      subst hkn
      have hle : (els ws k).length ≤ 64 * k := by
        unfold els
        exact Nat.le_trans (List.length_filter_le _ _) (by simp)
      have hj := join_any wr HO.out (by omega) (by
        intro v hv
        have := ((els_mem ws k v).1 hv).1
        omega)
      have hjs := join_size (els ws k) (by omega) (by
        intro v hv
        have := ((els_mem ws k v).1 hv).1
        omega)
      obtain ⟨J, hJ⟩ : ∃ J : ByteArray, (⟨(Lib.join ((els ws k).map fun v : Nat => (numText v).data.toList) [44, 32]).toArray⟩ : ByteArray) = J := ⟨_, rfl⟩
      rw [hJ] at hj
      have hjs : J.size ≤ 7700 := by
        rw [← hJ]
        exact hjs
      have HJ := Lib.hid hj
      have HJe : Hid (textB (els ws k) = ⟨#[123]⟩ ++ J ++ ⟨#[125]⟩) := by rw [← hJ]; rfl
      have hc1 : (⟨#[123]⟩ : ByteArray).size + J.size ≤ 9223372036854775807 := by
        show 1 + J.size ≤ _
        omega
      have hc2 : ((⟨#[123]⟩ : ByteArray) ++ J).size + (⟨#[125]⟩ : ByteArray).size ≤ 9223372036854775807 := by
        rw [ByteArray.size_append]
        show 1 + J.size + 1 ≤ _
        omega
      clear hj hJ
      go_wp2_with (go_at_call 103; go_fit HJ.out; rintro e w2 ⟨rfl, hb2⟩; have HB2 := Lib.hid hb2; clear hb2)
      all_goals go_ret
      all_goals exact ⟨congrArg Ending.returned (congrArg Value.string HJe.out.symm), HB.out.trans (HB2.out.mono HB.out.size)⟩
end Go.Proofs.YtiffjbpejlnndaaDoor
