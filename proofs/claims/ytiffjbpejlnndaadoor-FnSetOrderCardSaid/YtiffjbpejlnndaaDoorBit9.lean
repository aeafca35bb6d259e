/-
  The exported door's methods of a bit set. Conditions: as in Bit2.
-/
import Derived.Test.YtiffjbpejlnndaaDoorBit8
namespace Go.Proofs.YtiffjbpejlnndaaDoor
open Go.RowKit

abbrev Z85 : Obj := .cells #[.pointer none] 85
abbrev P85 (b : Nat) : Obj := .cells #[.pointer (some ⟨b, 0, none⟩)] 85
theorem info85 : (Tryd.prog.info? 85).map (·.size) = some 1 := by kernel_rfl
abbrev bv (b : Nat) : Value := .agg #[.pointer (some ⟨b, 0, none⟩)]
theorem zznew (w : World) : Calls Tryd.prog 38 #[] w fun e w' => ∃ b, e = .returned (bv b) ∧ Below w.heap.size w w' ∧ BS w' w.heap.size b [] := by
  have hz : Blk (w.alloc Z85) w.heap.size 85 #[.pointer none] := Blk.new _ _ _
  have Hz := Lib.hid hz
  clear hz
  go_enter Tryd.func38, Tryd.ntmps38
  go_wp2_with (go_at_call 74; go_fit (new_any _); rintro e w1 ⟨rfl, hb, hs⟩; have hz1 := Hz.out.below hb Hz.out.lt; have c1 : w1.cell? ⟨w.heap.size, 0, none⟩ = some (.pointer none) := hz1.cell 0; have f1 := hz1.frozen 0; have Hz1 := Lib.hid hz1; have HB := Lib.hid hb; have HS := Lib.hid hs; clear hb hs hz1)
  have hz2 : Blk _ w.heap.size 85 #[.pointer (some ⟨w.heap.size + 1, 0, none⟩)] := Hz1.out.set_ 0 (.pointer (some ⟨w.heap.size + 1, 0, none⟩))
  (try simp only [Exit.inBlock, Exit.then])
  refine bodyPost_ret (results_cell_row rfl _ _ w.heap.size 85 #[.pointer (some ⟨w.heap.size + 1, 0, none⟩)] (0, 0) _ rfl hz2 Tryd.underlying85 rfl info85) rfl ?_
  refine ⟨w.heap.size + 1, rfl, ?_, ?_⟩
  · exact (((Below.refl _ w).alloc (Nat.le_refl _) _).trans (HB.out.mono (by simp))).setCell (p := ⟨w.heap.size, 0, none⟩) (Nat.le_refl _) _
  · have hs := HS.out
    obtain ⟨q1, q2, A, q3, q4⟩ := hs
    have q3 : Blk w1 (w.heap.size + 1) 134 #[.slice A 0 0] := by simpa using q3
    exact ⟨Nat.le_succ _, q2, A, q3.far (p := ⟨w.heap.size, 0, none⟩) (by show w.heap.size + 1 ≠ w.heap.size; omega) _, fun h => absurd h (by decide)⟩
theorem bs_alloc {w : World} {B b : Nat} {ws : List Nat} (h : BS w B b ws) (o : Obj) : BS (w.alloc o) B b ws := h.below ((Below.refl _ _).alloc (Nat.le_refl _) _)
theorem bv_alloc {w : World} {U b : Nat} {ws : List Nat} (h : BV w U b ws) (hU : U ≤ w.heap.size) (o : Obj) : BV (w.alloc o) U b ws := h.below ((Below.refl w.heap.size _).alloc (Nat.le_refl _) _) hU
theorem below_alloc1 {w w1 : World} {B : Nat} {o : Obj} (hBw : B ≤ w.heap.size) (h : Below B (w.alloc o) w1) : Below B w w1 := ((Below.refl _ w).alloc hBw _).trans h
theorem below_alloc2 {w w1 : World} {o : Obj} (h : Below (w.alloc o).heap.size (w.alloc o) w1) : Below w.heap.size w w1 := ((Below.refl _ w).alloc (Nat.le_refl _) _).trans (h.mono (by simp))
theorem size_alloc1 {w : World} {B : Nat} (o : Obj) (hBw : B ≤ w.heap.size) : B ≤ (w.alloc o).heap.size := by simp; omega
theorem tabs_alloc {w : World} (h : Tabs w) (o : Obj) : Tabs (w.alloc o) := h.below ((Below.refl _ _).alloc (Nat.le_refl _) _)
theorem zzadd (w : World) (B b : Nat) (ws : List Nat) (v : Nat) (hBw : B ≤ w.heap.size) (h : BS w B b ws) (hv : v ≤ 1000) :
    Calls Tryd.prog 39 #[bv b, .int .i64 v] w (BPost w B b (addB ws v)) := by
  have H2 := Lib.hid (bs_alloc h (P85 b))
  have Hsz := Lib.hid (size_alloc1 (P85 b) hBw)
  clear h
  go_enter Tryd.func39, Tryd.ntmps39
  go_wp2_with (go_at_call 75; go_fit (add_any _ B b ws v Hsz.out H2.out hv); rintro e w1 ⟨rfl, hb, hs⟩; have HB := Lib.hid hb; have HS := Lib.hid hs; clear hb hs)
  go_end0
  exact ⟨rfl, below_alloc1 hBw HB.out, HS.out.1, (Keep.below ((Below.refl _ _).alloc (Nat.le_refl _) _)).trans HS.out.2⟩
theorem zzremove (w : World) (B b : Nat) (ws : List Nat) (v : Nat) (hBw : B ≤ w.heap.size) (h : BS w B b ws) (hv : v ≤ 1000) :
    Calls Tryd.prog 40 #[bv b, .int .i64 v] w (BPost w B b (delB ws v)) := by
  have H2 := Lib.hid (bs_alloc h (P85 b))
  clear h
  go_enter Tryd.func40, Tryd.ntmps40
  go_wp2_with (go_at_call 76; go_fit (remove_any _ B b ws v H2.out hv); rintro e w1 ⟨rfl, hb, hs⟩; have HB := Lib.hid hb; have HS := Lib.hid hs; clear hb hs)
  go_end0
  exact ⟨rfl, below_alloc1 hBw HB.out, HS.out.1, (Keep.below ((Below.refl _ _).alloc (Nat.le_refl _) _)).trans HS.out.2⟩
theorem zzlength (w : World) (U b : Nat) (ws : List Nat) (h : BV w U b ws) (hU : U ≤ w.heap.size) (hn : ws.length ≤ 1000) :
    Calls Tryd.prog 42 #[bv b] w (Saw w (.int .i64 (sumB ws : Nat))) := by
  have H2 := Lib.hid (bv_alloc h hU (P85 b))
  clear h
  go_enter Tryd.func42, Tryd.ntmps42
  go_wp2_with (go_at_call 77; go_fit (length_v _ U b ws H2.out hn); rintro e w1 ⟨rfl, rfl⟩)
  go_ret
  exact ⟨rfl, (Below.refl _ _).alloc (Nat.le_refl _) _⟩
theorem zztext (w : World) (U b : Nat) (ws : List Nat) (h : BV w U b ws) (hU : U ≤ w.heap.size) (hn : ws.length ≤ 16) (hT : Tabs w) :
    Calls Tryd.prog 43 #[bv b] w (Saw w (.string (textB (els ws ws.length)))) := by
  have H2 := Lib.hid (bv_alloc h hU (P85 b))
  have HT := Lib.hid (tabs_alloc hT (P85 b))
  clear h hT
  go_enter Tryd.func43, Tryd.ntmps43
  go_wp2_with (go_at_call 78; go_fit (text_v _ U b ws H2.out hn HT.out); rintro e w1 ⟨rfl, hb⟩; have HB := Lib.hid hb; clear hb)
  go_ret
  exact ⟨rfl, below_alloc2 HB.out⟩
theorem zzleast (w : World) (U b : Nat) (ws : List Nat) (h : BV w U b ws) (hU : U ≤ w.heap.size) (hn : ws.length ≤ 1000) (hT : Tabs w) :
    Calls Tryd.prog 44 #[bv b] w (Saw w (.int .i64 ((els ws ws.length).headD 2147483647 : Nat))) := by
  have H2 := Lib.hid (bv_alloc h hU (P85 b))
  have HT := Lib.hid (tabs_alloc hT (P85 b))
  clear h hT
  obtain ⟨x, hx⟩ : ∃ x, (els ws ws.length).headD 2147483647 = x := ⟨_, rfl⟩
  rw [hx]
  have Hx := Lib.hid hx
  clear hx
  go_enter Tryd.func44, Tryd.ntmps44
  go_wp2_with (go_at_call 79; go_fit (min_v _ U b ws H2.out hn HT.out); rw [Hx.out]; rintro e w1 ⟨rfl, rfl⟩)
  go_ret
  exact ⟨rfl, (Below.refl _ _).alloc (Nat.le_refl _) _⟩
theorem zzcontains (w : World) (U b : Nat) (ws : List Nat) (v : Nat) (h : BV w U b ws) (hU : U ≤ w.heap.size) (hn : ws.length ≤ 1000) (hv : v ≤ 1000) :
    Calls Tryd.prog 45 #[bv b, .int .i64 v] w (Saw w (.bool (inB ws v))) := by
  have H2 := Lib.hid (bv_alloc h hU (P85 b))
  clear h
  go_enter Tryd.func45, Tryd.ntmps45
  go_wp2_with (go_at_call 80; go_fit (contains_v _ U b ws v H2.out hn hv); rintro e w1 ⟨rfl, hb⟩; have HB := Lib.hid hb; clear hb)
  go_ret
  exact ⟨rfl, below_alloc2 HB.out⟩
theorem zzor (w : World) (B b : Nat) (ws : List Nat) (U b2 : Nat) (vs : List Nat) (h : BS w B b ws) (hv : BV w U b2 vs) (hU : U ≤ B) (hBw : B ≤ w.heap.size) (hn : ws.length ≤ 1000) (hn2 : vs.length ≤ 1000) :
    Calls Tryd.prog 46 #[bv b, bv b2] w (BPost w B b (orB ws vs)) := by
  have H2 := Lib.hid (bs_alloc (bs_alloc h (P85 b)) (P85 b2))
  have K2 := Lib.hid (bv_alloc (bv_alloc hv (Nat.le_trans hU hBw) (P85 b)) (size_alloc1 _ (Nat.le_trans hU hBw)) (P85 b2))
  have Hsz := Lib.hid (size_alloc1 (P85 b2) (size_alloc1 (P85 b) hBw))
  clear h hv
  go_enter Tryd.func46, Tryd.ntmps46
  go_wp2_with (go_at_call 81; go_fit (or_any _ B b ws U b2 vs H2.out K2.out hU Hsz.out hn hn2); rintro e w1 ⟨rfl, hb, hs⟩; have HB := Lib.hid hb; have HS := Lib.hid hs; clear hb hs)
  go_end0
  exact ⟨rfl, below_alloc1 hBw (below_alloc1 (size_alloc1 _ hBw) HB.out), HS.out.1, (Keep.below (((Below.refl _ _).alloc (Nat.le_refl _) _).alloc (by simp) _)).trans HS.out.2⟩
theorem zzequal (w : World) (U b b2 : Nat) (ws vs : List Nat) (h : BV w U b ws) (h2 : BV w U b2 vs) (hU : U ≤ w.heap.size) (hn : ws.length ≤ 1000) (hn2 : vs.length ≤ 1000) (hne : b ≠ b2) :
    Calls Tryd.prog 47 #[bv b, bv b2] w (SawBool w) := by
  have H2 := Lib.hid (bv_alloc (bv_alloc h hU (P85 b)) (size_alloc1 _ hU) (P85 b2))
  have K2 := Lib.hid (bv_alloc (bv_alloc h2 hU (P85 b)) (size_alloc1 _ hU) (P85 b2))
  clear h h2
  go_enter Tryd.func47, Tryd.ntmps47
  go_wp2_with (go_at_call 82; go_fit (equals_v _ U b b2 ws vs H2.out K2.out hn hn2 hne); rintro e w1 ⟨x, rfl, hb⟩; have HB := Lib.hid hb; clear hb)
  go_ret
  exact ⟨x, rfl, below_alloc2 (below_alloc2 HB.out)⟩
end Go.Proofs.YtiffjbpejlnndaaDoor
