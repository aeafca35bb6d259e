/-
  An interval set's text, its intervals, comparison, and the exported door's methods. Conditions: as each theorem says.
-/
import Derived.Test.YtiffjbpejlnndaaDoorIvlR
import Derived.IntWalk
namespace Go.Proofs.YtiffjbpejlnndaaDoor
open Go.RowKit

def numI (z : Int) : ByteArray := ⟨(Lib.itoa z).toArray⟩
def nameI (p : Rng) : ByteArray := if p.2 = p.1 + 1 then (if p.1 = -1 then ⟨#[60, 69, 79, 70, 62]⟩ else numI p.1) else numI p.1 ++ ⟨#[46, 46]⟩ ++ numI (p.2 - 1)
def strsI (l : List Rng) : List Value := l.map fun p => Value.string (nameI p)
def joinI (l : List Rng) : ByteArray := ⟨(Lib.join (l.map fun p => (nameI p).data.toList) [44, 32]).toArray⟩
def textI : List Rng → ByteArray
  | [] => ⟨#[123, 125]⟩
  | [p] => nameI p
  | p :: q :: r => ⟨#[123]⟩ ++ joinI (p :: q :: r) ++ ⟨#[125]⟩
theorem numI_size (z : Int) (h : -1000 ≤ z ∧ z ≤ 1000) : (numI z).size ≤ 5 := by
  show (Lib.itoa z).toArray.toList.length ≤ 5
  unfold Lib.itoa
  split
  · have := decDigits_le 4 z.natAbs (by omega) (by omega)
    simp
    omega
  · exact Nat.le_trans (decDigits_le 4 z.toNat (by omega) (by omega)) (by omega)
theorem nameI_size (p : Rng) (h : (-1000 ≤ p.1 ∧ p.1 ≤ 1000) ∧ (-999 ≤ p.2 ∧ p.2 ≤ 1000)) : (nameI p).size ≤ 12 := by
  have h1 := numI_size p.1 h.1
  have h2 := numI_size (p.2 - 1) (by omega)
  unfold nameI
  split
  · split
    · show 5 ≤ 12
      omega
    · omega
  · rw [ByteArray.size_append, ByteArray.size_append]
    show (numI p.1).size + 2 + (numI (p.2 - 1)).size ≤ 12
    omega
theorem itoaI_any (w : World) (z : Int) (h : -1000 ≤ z ∧ z ≤ 1000) (hT : Tabs w) : Calls Tryd.prog 102 #[.int .i64 z] w (Saw w (.string (numI z))) := by
  refine (Tryd.strconv_Itoa z (by omega) (by omega) w hT.2).mono ?_
  rintro e w' ⟨he, k, os, rfl⟩
  exact ⟨he, Lib.below_grow _ w (Nat.le_refl _) k os⟩
theorem joinI_size (l : List Rng) (hl : l.length ≤ 1000) (hb : ∀ p ∈ l, (-1000 ≤ p.1 ∧ p.1 ≤ 1000) ∧ (-999 ≤ p.2 ∧ p.2 ≤ 1000)) : (joinI l).size ≤ 14000 := by
  show (Lib.join (l.map fun p => (nameI p).data.toList) [44, 32]).length ≤ 14000
  refine Nat.le_trans (join_le _ 12 _ ?_) ?_
  · intro x hx
    simp only [List.mem_map] at hx
    obtain ⟨y, hy, rfl⟩ := hx
    exact nameI_size y (hb y hy)
  · simp only [List.length_map]
    show l.length * (12 + 2) ≤ _
    omega
theorem joinI_any (w : World) {base : Nat} {v : Value} {l : List Rng} (h : w.ownsRow base 9 1 v l.length (strsI l)) (hl : l.length ≤ 1000) (hb : ∀ p ∈ l, (-1000 ≤ p.1 ∧ p.1 ≤ 1000) ∧ (-999 ≤ p.2 ∧ p.2 ≤ 1000)) :
    Calls Tryd.prog 103 #[v, .string ⟨#[44, 32]⟩] w (Saw w (.string (joinI l))) := by
  rcases own_form h with ⟨h0, a, c, rfl⟩ | ⟨g, c, rfl, _, hg, hc, hcell⟩
  · obtain rfl : l = [] := List.eq_nil_of_length_eq_zero h0
    refine (Tryd.strings_Join_none a c ⟨#[44, 32]⟩ w).mono ?_
    rintro e w' ⟨he, rfl⟩
    exact ⟨he, Below.refl _ _⟩
  · have hlen : (l.map nameI).length = l.length := List.length_map ..
    have := Tryd.strings_Join g 0 c (l.map nameI) ⟨#[44, 32]⟩ w (by
      intro j x hj
      rw [Nat.zero_add]
      apply hcell
      simp only [List.getElem?_map, Option.map_eq_some_iff] at hj
      obtain ⟨y, hy, rfl⟩ := hj
      simp [strsI, hy]) hg (by omega) (by omega) (by
        rw [List.map_map]
        have := joinI_size l hl hb
        exact Nat.le_trans this (by omega))
    rw [hlen] at this
    rw [List.map_map] at this
    exact this
theorem strsI_snoc (l : List Rng) (k : Nat) (p : Rng) (h : l[k]? = some p) : strsI (l.take (k + 1)) = strsI (l.take k) ++ [.string (nameI p)] := by
  rw [take_at h]
  simp [strsI]
theorem make137 (W : World) : (Instr.makeSlice 137 (.int .i64 0) (.int .i64 0)).run Tryd.prog W = .ok (.slice (some ⟨W.heap.size, 0, none⟩) 0 0) (W.alloc (.cells #[] 9)) := by kernel_rfl
/-- The names so far, behind what a round has done. -/
def NX (w : World) (v : Value) (k z : Nat) (l : List Rng) (p : Rng) (W : World) : Prop := Below w.heap.size w W ∧ W.ownsRow w.heap.size 9 1 v k (strsI l) ∧ Blk W z 109 #[.int .i64 p.1, .int .i64 p.2]
theorem NX.step {w W W' : World} {v : Value} {k z : Nat} {l : List Rng} {p : Rng} (h : NX w v k z l p W) (hb : Below W.heap.size W W') : NX w v k z l p W' := ⟨below_tr h.1 (Nat.le_refl _) hb, own_below h.2.1 hb, h.2.2.below hb h.2.2.lt⟩
theorem NX.drew {w W : World} {v : Value} {k z : Nat} {l : List Rng} {p : Rng} (h : NX w v k z l p W) : NX w v k z l p W.drew := ⟨h.1.drew, World.ownsRow.drew h.2.1, h.2.2⟩
theorem NX.tabs {w W : World} {v : Value} {k z : Nat} {l : List Rng} {p : Rng} (h : NX w v k z l p W) (hT : Tabs w) : Tabs W := hT.below h.1
/-- Behind the append. -/
theorem NX.grow {w W W' : World} {v : Value} {k z : Nat} {l : List Rng} {p : Rng} {o : Obj} (h : NX w v k z l p W) (hg : (W.alloc o).grownBy W' v.ownBlock) : Below w.heap.size w W' :=
  (below_al h.1 (Nat.le_refl _)).grown hg (by have := h.1.size; simp; omega) (fun j hj => (h.2.1.lt j hj).1)
end Go.Proofs.YtiffjbpejlnndaaDoor
namespace Go.Proofs.YtiffjbpejlnndaaDoor
open Go.RowKit

set_option maxRecDepth 100000 in
set_option maxHeartbeats 4000000 in
theorem indexText_any (w : World) (B b : Nat) (v : Value) (l : List Rng) (h : IS w B b v l) (hl : l ≠ []) (hn : l.length ≤ 1000) (hb : ∀ p ∈ l, (-1000 ≤ p.1 ∧ p.1 ≤ 999) ∧ (-999 ≤ p.2 ∧ p.2 ≤ 1000)) (hT : Tabs w) :
    Calls Tryd.prog 118 #[.pointer (some ⟨b, 0, none⟩)] w (Saw w (.string (textI l))) := by
  obtain ⟨A, c, rfl⟩ := h.form
  have hpos : 0 < l.length := List.length_pos_iff.2 hl
  obtain ⟨g, rfl, hgl, _, _⟩ := h.cells (k := 0) (p := l[0]) (List.getElem?_eq_getElem hpos)
  have c0 : w.cell? ⟨b, 0, none⟩ = some (.slice (some ⟨g, 0, none⟩) l.length c) := h.2.1.cell 0
  obtain ⟨n, hnn⟩ : ∃ n, l.length = n := ⟨_, rfl⟩
  rw [hnn] at c0 hpos hn h
  have hmk := make137 w
  obtain ⟨i0, hi0, hz0, hz1, hz2⟩ := info_parts info9
  have H := Lib.hid h
  have HB := Lib.hid hb
  have HT := Lib.hid hT
  have Hn := Lib.hid hnn
  clear h hb hT hnn hl
  go_enter Tryd.func118, Tryd.ntmps118
  go_wp2
  clear hmk
  go_loopw [3, 4] (fun s3 s4 wr => ∃ (k : Nat), k ≤ n ∧ s4 = .int .i64 (k : Int) ∧ wr.ownsRow w.heap.size 9 1 s3 k (strsI (l.take k)) ∧ Below w.heap.size w wr) (fun _ s4 _ => n - (intOf s4).toNat)
  case atStart => exact ⟨0, Nat.zero_le _, rfl, ⟨rfl, .inr ⟨w.heap.size, 0, #[], rfl, Nat.le_refl _, Blk.new _ _ _, Nat.le_refl _, Nat.zero_le _, rfl, rfl⟩⟩, below_al (Below.refl _ _) (Nat.le_refl _)⟩
  case round =>
    obtain ⟨k, hk, rfl, hown, hbw⟩ := hrel
    obtain ⟨A3, c3, rfl⟩ := own_slice hown
    have hi2 := H.out.below hbw
    have c1 : wr.cell? ⟨b, 0, none⟩ = some (.slice (some ⟨g, 0, none⟩) n c) := hi2.2.1.cell 0
    have hbl := hi2.2.1.lt
    by_cases hlt : k < n
    · obtain ⟨p, hp⟩ : ∃ p, l[k]? = some p := ⟨l[k]'(by rw [Hn.out]; exact hlt), List.getElem?_eq_getElem _⟩
      obtain ⟨gl, d1, d2, _, _⟩ := hi2.both Hn.out hp
      have hsm := HB.out p (List.mem_of_getElem? hp)
      have Hsn := Lib.hid (strsI_snoc l k p hp)
      have hnx : NX w (.slice A3 k c3) k wr.heap.size (l.take k) p (wr.alloc (P109 p)) := ⟨below_al hbw (Nat.le_refl _), hown.alloc _, Blk.new _ _ _⟩
      go_upto_region 6 with fail
      generalize hwa : (wr.alloc (.cells #[.int .i64 p.1, .int .i64 p.2] 109)) = wa at hnx ⊢
      generalize wr.heap.size = zq at hnx ⊢
      have z0 : wa.cell? ⟨zq, 0, none⟩ = some (.int .i64 p.1) := hnx.2.2.cell 0
      have z1 : wa.cell? ⟨zq, 1, none⟩ = some (.int .i64 p.2) := hnx.2.2.cell 1
      have HNX := Lib.hid hnx
      clear hi2 hp hnx hown hbw hwa c1 hbl d1 d2 gl
      by_cases x1 : p.2 = p.1 + 1
      · by_cases x2 : p.1 = -1
        · have hnm := Lib.hid (show nameI p = ⟨#[60, 69, 79, 70, 62]⟩ by unfold nameI; rw [if_pos x1, if_pos x2])
          go_wp2_with (at_builtin; refine wpList_append_own _ rfl (.tmp 32) (.tmp 33) 137 rfl w.heap.size 9 i0 _ 1 16 Tryd.underlying137 hi0 hz0 hz1 hz2 rfl (by decide) _ _ _ rfl (HNX.out.2.1.alloc _) ⟨wa.heap.size, 0, none⟩ 1 1 [.string ⟨#[60, 69, 79, 70, 62]⟩] rfl rfl (cells_new wa [.string ⟨#[60, 69, 79, 70, 62]⟩] 9 _ rfl) (one_str _) (by unfold maxLen; omega) (by omega) (below_al HNX.out.1 (Nat.le_refl _)).size ?_; intro v' w3 hown' hgrow _)
          have hg2 := HNX.out.grow hgrow
          rw [← hnm.out, ← Hsn.out] at hown'
          have HO2 := Lib.hid hown'
          clear hown' hgrow x1 x2
          go_roundw
          case rel => exact ⟨k + 1, by omega, rfl, HO2.out, hg2⟩
          case measure =>
            simp [intOf]
            omega
        · have hnm := Lib.hid (show nameI p = numI p.1 by unfold nameI; rw [if_pos x1, if_neg x2])
          have hs1 := numI_size p.1 (by omega)
          generalize hs : numI p.1 = s1 at hnm hs1
          have Hs := Lib.hid hs
          clear hs
          go_wp2_with (first
            | (go_at_call 102; go_fit (itoaI_any _ p.1 (by omega) (HNX.out.tabs HT.out)); rw [Hs.out]; rintro e w2 ⟨rfl, hb2⟩; have HNX2 := Lib.hid (HNX.out.step hb2); clear hb2)
            | (at_builtin; refine wpList_append_own _ rfl (.tmp 35) (.tmp 39) 137 rfl w.heap.size 9 i0 _ 1 16 Tryd.underlying137 hi0 hz0 hz1 hz2 rfl (by decide) _ _ _ rfl (HNX2.out.2.1.alloc _) ⟨w2.heap.size, 0, none⟩ 1 1 [.string s1] rfl rfl (cells_new w2 [.string s1] 9 _ rfl) (one_str _) (by unfold maxLen; omega) (by omega) (below_al HNX2.out.1 (Nat.le_refl _)).size ?_; intro v' w3 hown' hgrow _))
          have hg2 := HNX2.out.grow hgrow
          rw [← hnm.out, ← Hsn.out] at hown'
          have HO2 := Lib.hid hown'
          clear hown' hgrow x1 x2
          go_roundw
          case rel => exact ⟨k + 1, by omega, rfl, HO2.out, hg2⟩
          case measure =>
            simp [intOf]
            omega
      · have hnm := Lib.hid (show nameI p = numI p.1 ++ ⟨#[46, 46]⟩ ++ numI (p.2 - 1) by unfold nameI; rw [if_neg x1])
        have hs1 := numI_size p.1 (by omega)
        have hs2 := numI_size (p.2 - 1) (by omega)
        have hq1 : -1000 ≤ p.1 ∧ p.1 ≤ 1000 := by omega
        have hq2 : -1000 ≤ p.2 - 1 ∧ p.2 - 1 ≤ 1000 := by omega
        generalize hs : numI p.1 = s1 at hnm hs1
        generalize ht : numI (p.2 - 1) = s2 at hnm hs2
        have Hs := Lib.hid hs
        have Ht := Lib.hid ht
        have hc1 : ¬ 9223372036854775807 < s1.size + 2 := by omega
        have hc2 : ¬ 9223372036854775807 < s1.size + 2 + s2.size := by omega
        have hwr : IntKind.i64.wrap (p.2 - 1) = p.2 - 1 := IntWalk.i64_in _ (by omega)
        clear hs ht
        go_upto_region 10 with fail
        go_region_law (first
          | (refine step_append_lies _ (by rfl) (.tmp 41) (.tmp 51) 137 (by rfl) w.heap.size 9 i0 _ 1 16 Tryd.underlying137 hi0 hz0 hz1 hz2 rfl (by omega) (.slice A3 k c3) k (strsI (l.take k)) (by rfl) (by first | exact HNX2.out.2.1.alloc _ | exact HNX3.out.2.1.alloc _) ⟨_, 0, none⟩ 1 1 [.string (s1 ++ ⟨#[46, 46]⟩ ++ s2)] (by rfl) (by rfl) (cells_new _ [.string (s1 ++ ⟨#[46, 46]⟩ ++ s2)] 9 _ rfl) (one_str _) (by omega) (by unfold maxLen; omega) (by omega) (by first | exact (below_al HNX2.out.1 (Nat.le_refl _)).size | exact (below_al HNX3.out.1 (Nat.le_refl _)).size) _ rfl ?_; intro gg cap w5 hown5 hgrow hat hltg; have HG : Hid (Below w.heap.size w w5) := (by first | exact HNX2.out.grow hgrow | exact HNX3.out.grow hgrow); have HO := Lib.hid hown5; clear hown5 hgrow hat)
          | (go_simp; go_at_call 102; go_fit (itoaI_any _ p.1 hq1 (by first | exact HNX.out.tabs HT.out | exact HNX.out.drew.tabs HT.out | exact HNX3.out.tabs HT.out | exact HNX3.out.drew.tabs HT.out)); rw [Hs.out]; rintro e w2 ⟨rfl, hb2⟩; have HNX2 : Hid (NX w (.slice A3 k c3) k zq (l.take k) p w2) := (by first | exact HNX.out.step hb2 | exact HNX.out.drew.step hb2 | exact HNX3.out.step hb2 | exact HNX3.out.drew.step hb2); have y0 : w2.cell? ⟨zq, 0, none⟩ = some (.int .i64 p.1) := HNX2.out.2.2.cell 0; have y1 : w2.cell? ⟨zq, 1, none⟩ = some (.int .i64 p.2) := HNX2.out.2.2.cell 1; clear hb2)
          | (go_simp; go_at_call 102; go_fit (itoaI_any _ (p.2 - 1) hq2 (by first | exact HNX.out.tabs HT.out | exact HNX.out.drew.tabs HT.out | exact HNX2.out.tabs HT.out | exact HNX2.out.drew.tabs HT.out)); rw [Ht.out]; rintro e w3 ⟨rfl, hb3⟩; have HNX3 : Hid (NX w (.slice A3 k c3) k zq (l.take k) p w3) := (by first | exact HNX.out.step hb3 | exact HNX.out.drew.step hb3 | exact HNX2.out.step hb3 | exact HNX2.out.drew.step hb3); have x0 : w3.cell? ⟨zq, 0, none⟩ = some (.int .i64 p.1) := HNX3.out.2.2.cell 0; have x1 : w3.cell? ⟨zq, 1, none⟩ = some (.int .i64 p.2) := HNX3.out.2.2.cell 1; clear hb3))
        all_goals
          have hO2 := HO.out
          rw [← hnm.out, ← Hsn.out] at hO2
          have HO2 := Lib.hid hO2
          clear hO2 HO hwr hc1 hc2
        all_goals go_wp2
        all_goals go_roundw
        all_goals first
          | exact ⟨k + 1, by omega, rfl, HO2.out, HG.out⟩
          | (simp [intOf]; omega)
    · have hkn : k = n := by omega
      subst hkn
      rw [List.take_of_length_le (by rw [Hn.out]; exact Nat.le_refl _)] at hown
      have HBW := Lib.hid hbw
      by_cases hn1 : 1 < k
      · have hj := joinI_any wr (by rw [Hn.out]; exact hown) (by rw [Hn.out]; exact hn) (fun p hp => by have := HB.out p hp; omega)
        have hjs := joinI_size l (by rw [Hn.out]; exact hn) (fun p hp => by have := HB.out p hp; omega)
        have hte := Lib.hid (show textI l = ⟨#[123]⟩ ++ joinI l ++ ⟨#[125]⟩ by
          match l, Hn.out with
          | [], h => simp at h; omega
          | [p], h => simp at h; omega
          | p :: q :: r, _ => rfl)
        generalize joinI l = J at hj hjs hte
        have HJ := Lib.hid hj
        have hc1 : (⟨#[123]⟩ : ByteArray).size + J.size ≤ 9223372036854775807 := by
          show 1 + J.size ≤ _
          omega
        have hc2 : ((⟨#[123]⟩ : ByteArray) ++ J).size + (⟨#[125]⟩ : ByteArray).size ≤ 9223372036854775807 := by
          rw [ByteArray.size_append]
          show 1 + J.size + 1 ≤ _
          omega
        clear hi2 hown hbw hj
        go_wp2_with (go_at_call 103; go_fit HJ.out; rintro e w2 ⟨rfl, hb2⟩; have HB2 := Lib.hid (below_tr HBW.out (Nat.le_refl _) hb2); clear hb2)
        go_ret
        exact ⟨congrArg Ending.returned (congrArg Value.string hte.out.symm), HB2.out⟩
      · have hk1 : k = 1 := by omega
        subst hk1
        obtain ⟨p, rfl⟩ : ∃ p, l = [p] := List.length_eq_one_iff.1 Hn.out
        rcases own_form hown with ⟨h0, _⟩ | ⟨gn, cn, e, _, hgn, _, hcell⟩
        · omega
        · injection e with e1 e2 e3
          subst e1
          have z0 : wr.cell? ⟨gn, 0, none⟩ = some (.string (nameI p)) := hcell 0 _ rfl
          clear hi2 hown hbw hcell
          go_wp2
          go_ret
          exact ⟨rfl, HBW.out⟩
end Go.Proofs.YtiffjbpejlnndaaDoor
namespace Go.Proofs.YtiffjbpejlnndaaDoor
open Go.RowKit

theorem eq_nil137 (W : World) : (binOp .neq 137 (.slice none 0 0) (.slice none 0 0)).run Tryd.prog W = .ok (.bool false) W := by kernel_rfl
/-- What a text asks of the ranges. -/
def TextOk (l : List Rng) : Prop := l.length ≤ 1000 ∧ ∀ p ∈ l, (-1000 ≤ p.1 ∧ p.1 ≤ 999) ∧ (-999 ≤ p.2 ∧ p.2 ≤ 1000)
theorem verbose_any (w : World) (B b : Nat) (v : Value) (l : List Rng) (h : IS w B b v l) (hb : TextOk l) (hT : Tabs w) :
    Calls Tryd.prog 109 #[.pointer (some ⟨b, 0, none⟩), .slice none 0 0, .slice none 0 0, .bool false] w (Saw w (.string (textI l))) := by
  by_cases hl : l = []
  · have hv := h.2.2.2.2 hl
    subst hv
    subst hl
    have c0 : w.cell? ⟨b, 0, none⟩ = some (.slice none 0 0) := h.2.1.cell 0
    have hq := eq_nil0 w
    clear h
    go_enter Tryd.func109, Tryd.ntmps109
    go_wp2
    go_ret
    exact ⟨rfl, Below.refl _ _⟩
  · obtain ⟨A, c, rfl⟩ := h.form
    have hpos : 0 < l.length := List.length_pos_iff.2 hl
    obtain ⟨g, rfl, _, _, _⟩ := h.cells (k := 0) (p := l[0]) (List.getElem?_eq_getElem hpos)
    have c0 : w.cell? ⟨b, 0, none⟩ = some (.slice (some ⟨g, 0, none⟩) l.length c) := h.2.1.cell 0
    have hx := indexText_any w B b _ l h hl hb.1 hb.2 hT
    have hq := eq_nil w ⟨g, 0, none⟩ l.length c
    have hr := eq_nil137 w
    generalize textI l = tx at hx
    have HX := Lib.hid hx
    clear h hb hT hx hl
    go_enter Tryd.func109, Tryd.ntmps109
    go_wp2_with (go_at_call 118; go_fit HX.out; rintro e w2 ⟨rfl, hb2⟩; have HB2 := Lib.hid hb2; clear hb2)
    go_ret
    exact ⟨rfl, HB2.out⟩
theorem isString_any (w : World) (B b : Nat) (v : Value) (l : List Rng) (h : IS w B b v l) (hb : TextOk l) (hT : Tabs w) :
    Calls Tryd.prog 91 #[.pointer (some ⟨b, 0, none⟩)] w (Saw w (.string (textI l))) := by
  have hx := verbose_any w B b v l h hb hT
  generalize textI l = tx at hx
  have HX := Lib.hid hx
  clear h hb hT hx
  go_enter Tryd.func91, Tryd.ntmps91
  go_wp2_with (go_at_call 109; go_fit HX.out; rintro e w2 ⟨rfl, hb2⟩; have HB2 := Lib.hid hb2; clear hb2)
  go_ret
  exact ⟨rfl, HB2.out⟩
theorem isIntervals_any (w : World) (B b : Nat) (v : Value) (l : List Rng) (h : IS w B b v l) : Calls Tryd.prog 93 #[.pointer (some ⟨b, 0, none⟩)] w (Saw w v) := by
  obtain ⟨A, c, rfl⟩ := h.form
  have c0 : w.cell? ⟨b, 0, none⟩ = some (.slice A l.length c) := h.2.1.cell 0
  clear h
  go_enter Tryd.func93, Tryd.ntmps93
  go_wp2
  go_ret
  exact ⟨rfl, Below.refl _ _⟩
end Go.Proofs.YtiffjbpejlnndaaDoor
namespace Go.Proofs.YtiffjbpejlnndaaDoor
open Go.RowKit

theorem equals_ne (w : World) (b b2 n n2 : Nat) (A A2 : Option Addr) (c c2 : Nat) (c0 : w.cell? ⟨b, 0, none⟩ = some (.slice A n c)) (d0 : w.cell? ⟨b2, 0, none⟩ = some (.slice A2 n2 c2)) (hne : ¬ n = n2) :
    Calls Tryd.prog 94 #[.pointer (some ⟨b, 0, none⟩), .pointer (some ⟨b2, 0, none⟩)] w (SawBool w) := by
  go_enter Tryd.func94, Tryd.ntmps94
  go_upto_region 1 with fail
  go_quiet (fail)
  go_wp2
  go_ret
  exact ⟨_, rfl, below_drewN (Below.refl _ _) _⟩
set_option maxRecDepth 100000 in
set_option maxHeartbeats 1000000 in
theorem isEquals_any (w : World) (B b b2 : Nat) (v v2 : Value) (l l2 : List Rng) (h : IS w B b v l) (h2 : IS w B b2 v2 l2) (hn : l.length ≤ 1000) :
    Calls Tryd.prog 94 #[.pointer (some ⟨b, 0, none⟩), .pointer (some ⟨b2, 0, none⟩)] w (SawBool w) := by
  obtain ⟨A, c, rfl⟩ := h.form
  obtain ⟨A2, c2, rfl⟩ := h2.form
  have c0 : w.cell? ⟨b, 0, none⟩ = some (.slice A l.length c) := h.2.1.cell 0
  have d0 : w.cell? ⟨b2, 0, none⟩ = some (.slice A2 l2.length c2) := h2.2.1.cell 0
  by_cases hnn : l.length = l2.length
  · obtain ⟨n, hn1⟩ : ∃ n, l.length = n := ⟨_, rfl⟩
    have hn2 : l2.length = n := hnn.symm.trans hn1
    have hbl := h.2.1.lt
    have hbl2 := h2.2.1.lt
    rw [hn1] at c0 hn h
    rw [hn2] at d0 h2
    have H := Lib.hid h
    have H2 := Lib.hid h2
    have Hn1 := Lib.hid hn1
    have Hn2 := Lib.hid hn2
    clear h h2 hn1 hn2 hnn
    go_enter Tryd.func94, Tryd.ntmps94
    go_upto_region 1 with fail
    go_quiet (fail)
    go_wp2
    go_loopw [23] (fun s23 wr => ∃ k : Nat, k ≤ n ∧ s23 = .int .i64 (k : Int) ∧ Below w.heap.size w wr) (fun s23 _ => n - (intOf s23).toNat)
    case atStart => exact ⟨0, Nat.zero_le _, rfl, below_drewN (Below.refl _ _) _⟩
    case round =>
      obtain ⟨k, hk, rfl, hb⟩ := hrel
      by_cases hlt : k < n
      · obtain ⟨p, hp⟩ : ∃ p, l[k]? = some p := ⟨l[k]'(by rw [Hn1.out]; exact hlt), List.getElem?_eq_getElem _⟩
        obtain ⟨q, hq⟩ : ∃ q, l2[k]? = some q := ⟨l2[k]'(by rw [Hn2.out]; exact hlt), List.getElem?_eq_getElem _⟩
        have hi := H.out.below hb
        have hi2 := H2.out.below hb
        have hA : ∃ g, A = some ⟨g, 0, none⟩ := by
          have h3 := hi
          rw [← Hn1.out] at h3
          obtain ⟨g, e, _⟩ := h3.cells hp
          exact ⟨g, e⟩
        have hA2 : ∃ g, A2 = some ⟨g, 0, none⟩ := by
          have h3 := hi2
          rw [← Hn2.out] at h3
          obtain ⟨g, e, _⟩ := h3.cells hq
          exact ⟨g, e⟩
        obtain ⟨g, rfl⟩ := hA
        obtain ⟨g2, rfl⟩ := hA2
        obtain ⟨gl, e1, e2, _, _⟩ := hi.both Hn1.out hp
        obtain ⟨gl2, f1, f2, _, _⟩ := hi2.both Hn2.out hq
        have c1 : wr.cell? ⟨b2, 0, none⟩ = some (.slice (some ⟨g2, 0, none⟩) n c2) := hi2.2.1.cell 0
        have hb3 := hi2.2.1.lt
        have HB := Lib.hid hb
        clear hb hi hi2 hp hq c0 d0
        go_upto_region 6 with fail
        by_cases x1 : p.1 = q.1
        · by_cases x2 : p.2 = q.2
          · go_quiet (fail)
            go_wp2
            go_roundw
            case rel => exact ⟨k + 1, by omega, rfl, below_drewN (below_al HB.out (Nat.le_refl _)) _⟩
            case measure =>
              simp [intOf]
              omega
          · go_quiet (fail)
            go_wp2
            go_ret
            exact ⟨_, rfl, below_drewN (below_al HB.out (Nat.le_refl _)) _⟩
        · go_quiet (fail)
          go_wp2
          go_ret
          exact ⟨_, rfl, below_drewN (below_al HB.out (Nat.le_refl _)) _⟩
      · have hkn : k = n := by omega
        subst hkn
        have HB := Lib.hid hb
        clear hb
        go_wp2
        go_ret
        exact ⟨_, rfl, HB.out⟩
  · exact equals_ne w b b2 _ _ A A2 c c2 c0 d0 hnn
end Go.Proofs.YtiffjbpejlnndaaDoor
namespace Go.Proofs.YtiffjbpejlnndaaDoor
open Go.RowKit

abbrev Z100 : Obj := .cells #[.pointer none] 100
abbrev P100 (b : Nat) : Obj := .cells #[.pointer (some ⟨b, 0, none⟩)] 100
theorem info100 : (Tryd.prog.info? 100).map (·.size) = some 1 := by kernel_rfl
def leastI (l : List Rng) : Int := (l.head?.map (·.1)).getD 0
/-- Rising, from -20 to 120. -/
def Fine (l : List Rng) : Prop := Good l ∧ InR l
theorem Fine.len {l : List Rng} (h : Fine l) : l.length ≤ 1000 := Nat.le_trans (ok_len h.1 h.2).1 (by omega)
theorem Fine.bounds {l : List Rng} (h : Fine l) : ∀ p ∈ l, (-20 ≤ p.1 ∧ p.1 ≤ 120) ∧ (-19 ≤ p.2 ∧ p.2 ≤ 121) := fun p hp => by
  have a := h.2 p hp
  have b := h.1.all p hp
  omega
theorem Fine.small {l : List Rng} (h : Fine l) : Small l := fun p hp => by
  have := h.bounds p hp
  omega
theorem Fine.text {l : List Rng} (h : Fine l) : TextOk l := ⟨h.len, fun p hp => by
  have := h.bounds p hp
  omega⟩
theorem IS.alloc {w : World} {B b : Nat} {v : Value} {l : List Rng} (h : IS w B b v l) (o : Obj) : IS (w.alloc o) B b v l := h.below ((Below.refl _ _).alloc (Nat.le_refl _) _)
theorem below_box (w : World) (o : Obj) : Below w.heap.size w (w.alloc o) := (Below.refl _ _).alloc (Nat.le_refl _) _
theorem zsnew (w : World) : Calls Tryd.prog 50 #[] w fun e w' => ∃ b, e = .returned (bv b) ∧ Below w.heap.size w w' ∧ IS w' w.heap.size b (.slice none 0 0) [] ∧ w.heap.size ≤ b ∧ b < w'.heap.size := by
  have hz : Blk (w.alloc Z100) w.heap.size 100 #[.pointer none] := Blk.new _ _ _
  have Hz := Lib.hid hz
  clear hz
  go_enter Tryd.func50, Tryd.ntmps50
  go_wp2_with (go_at_call 84; go_fit (newSet_any _); rintro e w1 ⟨rfl, hb, hs⟩; have hz1 := Hz.out.below hb Hz.out.lt; have c1 : w1.cell? ⟨w.heap.size, 0, none⟩ = some (.pointer none) := hz1.cell 0; have f1 := hz1.frozen 0; have Hz1 := Lib.hid hz1; have HB := Lib.hid hb; have HS := Lib.hid hs; clear hb hs hz1)
  have hz2 : Blk _ w.heap.size 100 #[.pointer (some ⟨w.heap.size + 1, 0, none⟩)] := Hz1.out.set_ 0 (.pointer (some ⟨w.heap.size + 1, 0, none⟩))
  (try simp only [Exit.inBlock, Exit.then])
  refine bodyPost_ret (results_cell_row rfl _ _ w.heap.size 100 #[.pointer (some ⟨w.heap.size + 1, 0, none⟩)] (0, 0) _ rfl hz2 Tryd.underlying100 rfl info100) rfl ?_
  have hs2 : Blk w1 (w.heap.size + 1) 142 #[.slice none 0 0, .bool false] := by
    have := HS.out
    simpa using this
  refine ⟨w.heap.size + 1, rfl, ?_, ⟨by omega, hs2.far (p := ⟨w.heap.size, 0, none⟩) (by show w.heap.size + 1 ≠ w.heap.size; omega) _, ⟨rfl, .inl ⟨rfl, rfl⟩⟩, ⟨fun _ => rfl, fun _ => rfl⟩⟩, by omega, ?_⟩
  · exact (((Below.refl _ w).alloc (Nat.le_refl _) _).trans (HB.out.mono (by simp))).setCell (p := ⟨w.heap.size, 0, none⟩) (Nat.le_refl _) _
  · have := hs2.lt
    simpa [World.setCell] using this
theorem zsaddOne (w : World) (B b : Nat) (v : Value) (l m : List Rng) (lo : Int) (h : IS w B b v l) (hBw : B ≤ w.heap.size) (hf : Fine l) (hm : addP l lo lo = some m) :
    Calls Tryd.prog 51 #[bv b, .int .i64 lo] w (GrowPost w B b v m (.tuple #[])) := by
  have hx := addOne_any (w.alloc (P100 b)) B b v l m lo (h.alloc _) (size_alloc1 _ hBw) hf.len hf.1 hm
  have HX := Lib.hid hx
  clear hx h hm
  go_enter Tryd.func51, Tryd.ntmps51
  go_wp2_with (go_at_call 85; go_fit HX.out; rintro e w1 ⟨rfl, v', hv⟩; have HV := Lib.hid hv; clear hv)
  go_end0
  exact ⟨rfl, v', GrowV.pre (below_box _ _) HV.out⟩
theorem zsaddRange (w : World) (B b : Nat) (v : Value) (l m : List Rng) (lo hi : Int) (h : IS w B b v l) (hBw : B ≤ w.heap.size) (hf : Fine l) (hm : addP l lo hi = some m) :
    Calls Tryd.prog 52 #[bv b, .int .i64 lo, .int .i64 hi] w (GrowPost w B b v m (.tuple #[])) := by
  have hx := addRange_any (w.alloc (P100 b)) B b v l m lo hi (h.alloc _) (size_alloc1 _ hBw) hf.len hf.1 hm
  have HX := Lib.hid hx
  clear hx h hm
  go_enter Tryd.func52, Tryd.ntmps52
  go_wp2_with (go_at_call 86; go_fit HX.out; rintro e w1 ⟨rfl, v', hv⟩; have HV := Lib.hid hv; clear hv)
  go_end0
  exact ⟨rfl, v', GrowV.pre (below_box _ _) HV.out⟩
theorem zsaddSet (w : World) (B b b2 : Nat) (v v2 : Value) (l l2 m : List Rng) (h : IS w B b v l) (h2 : IS w B b2 v2 l2) (ha : Apart b b2 v v2) (hBw : B ≤ w.heap.size) (hf : Fine l) (hf2 : Fine l2) (hm : addAll l l2 = some m) :
    Calls Tryd.prog 53 #[bv b, bv b2] w (GrowPost w B b v m (.tuple #[])) := by
  have hx := addSet_any ((w.alloc (P100 b)).alloc (P100 b2)) B b b2 v v2 l l2 m ((h.alloc _).alloc _) ((h2.alloc _).alloc _) ha (size_alloc1 _ (size_alloc1 _ hBw)) hf.1 hf.2 hf2.len hm
  have HX := Lib.hid hx
  clear hx h h2 ha hm
  go_enter Tryd.func53, Tryd.ntmps53
  go_wp2_with (go_at_call 87; go_fit HX.out; rintro e w1 ⟨rfl, v', hv⟩; have HV := Lib.hid hv; clear hv)
  go_end0
  exact ⟨rfl, v', GrowV.pre (below_al (below_box _ _) (Nat.le_refl _)) HV.out⟩
theorem zslength (w : World) (B b : Nat) (v : Value) (l : List Rng) (h : IS w B b v l) (hf : Fine l) : Calls Tryd.prog 55 #[bv b] w (Saw w (.int .i64 (lenR l))) := by
  have hx := isLength_any (w.alloc (P100 b)) B b v l (h.alloc _) hf.len hf.small
  generalize lenR l = z at hx
  have HX := Lib.hid hx
  clear hx h
  go_enter Tryd.func55, Tryd.ntmps55
  go_wp2_with (go_at_call 89; go_fit HX.out; rintro e w1 ⟨rfl, hb⟩; have HB := Lib.hid hb; clear hb)
  go_ret
  exact ⟨rfl, below_alloc2 HB.out⟩
theorem zsfirst (w : World) (B b : Nat) (v : Value) (l : List Rng) (h : IS w B b v l) (hf : Fine l) : Calls Tryd.prog 56 #[bv b] w (Saw w (.int .i64 (leastI l))) := by
  have hx := first_any (w.alloc (P100 b)) B b v l (h.alloc _) hf.len
  have e : (l.head?.map (·.1)).getD 0 = leastI l := rfl
  rw [e] at hx
  generalize leastI l = z at hx
  have HX := Lib.hid hx
  clear hx h e
  go_enter Tryd.func56, Tryd.ntmps56
  go_wp2_with (go_at_call 90; go_fit HX.out; rintro e w1 ⟨rfl, rfl⟩)
  go_ret
  exact ⟨rfl, below_box _ _⟩
theorem zstext2 (w : World) (B b : Nat) (v : Value) (l : List Rng) (h : IS w B b v l) (hf : Fine l) (hT : Tabs w) : Calls Tryd.prog 57 #[bv b] w (Saw w (.string (textI l))) := by
  have hx := isString_any (w.alloc (P100 b)) B b v l (h.alloc _) hf.text (tabs_alloc hT _)
  generalize textI l = z at hx
  have HX := Lib.hid hx
  clear hx h
  go_enter Tryd.func57, Tryd.ntmps57
  go_wp2_with (go_at_call 91; go_fit HX.out; rintro e w1 ⟨rfl, hb⟩; have HB := Lib.hid hb; clear hb)
  go_ret
  exact ⟨rfl, below_alloc2 HB.out⟩
theorem zscontains (w : World) (B b : Nat) (v : Value) (l : List Rng) (u : Int) (h : IS w B b v l) (hf : Fine l) : Calls Tryd.prog 58 #[bv b, .int .i64 u] w (Saw w (.bool (memB l u))) := by
  have hx := isContains_any (w.alloc (P100 b)) B b v l u (h.alloc _) hf.len rfl
  generalize memB l u = z at hx
  have HX := Lib.hid hx
  clear hx h
  go_enter Tryd.func58, Tryd.ntmps58
  go_wp2_with (go_at_call 92; go_fit HX.out; rintro e w1 ⟨rfl, hb⟩; have HB := Lib.hid hb; clear hb)
  go_ret
  exact ⟨rfl, below_alloc2 HB.out⟩
theorem zsintervals (w : World) (B b : Nat) (v : Value) (l : List Rng) (h : IS w B b v l) : Calls Tryd.prog 59 #[bv b] w (Saw w v) := by
  have hx := isIntervals_any (w.alloc (P100 b)) B b v l (h.alloc _)
  have HX := Lib.hid hx
  clear hx h
  go_enter Tryd.func59, Tryd.ntmps59
  go_wp2_with (go_at_call 93; go_fit HX.out; rintro e w1 ⟨rfl, hb⟩; have HB := Lib.hid hb; clear hb)
  go_ret
  exact ⟨rfl, below_alloc2 HB.out⟩
theorem zsequal (w : World) (B b b2 : Nat) (v v2 : Value) (l l2 : List Rng) (h : IS w B b v l) (h2 : IS w B b2 v2 l2) (hf : Fine l) : Calls Tryd.prog 60 #[bv b, bv b2] w (SawBool w) := by
  have hx := isEquals_any ((w.alloc (P100 b)).alloc (P100 b2)) B b b2 v v2 l l2 ((h.alloc _).alloc _) ((h2.alloc _).alloc _) hf.len
  have HX := Lib.hid hx
  clear hx h h2
  go_enter Tryd.func60, Tryd.ntmps60
  go_wp2_with (go_at_call 94; go_fit HX.out; rintro e w1 ⟨x, rfl, hb⟩; have HB := Lib.hid hb; clear hb)
  go_ret
  exact ⟨x, rfl, below_alloc2 (below_alloc2 HB.out)⟩
end Go.Proofs.YtiffjbpejlnndaaDoor
