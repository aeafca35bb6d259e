/-
  A bit set as it is read by others (BV: all of it lies below block U), and the union. Conditions: as in Bit2.
-/
import Derived.Test.YtiffjbpejlnndaaDoorBit3
import Derived.Deep.DeepCutAuto
import Derived.Deep.DeepFit
namespace Go.Proofs.YtiffjbpejlnndaaDoor
open Go.RowKit

def BV (w : World) (U b : Nat) (ws : List Nat) : Prop :=
  b < U ∧ Words ws ∧ ∃ A, Blk w b 134 #[.slice A ws.length ws.length] ∧ (0 < ws.length → ∃ d, A = some ⟨d, 0, none⟩ ∧ d < U ∧ Blk w d 130 (wordCells ws))
theorem BS.view {w : World} {B b : Nat} {ws : List Nat} (h : BS w B b ws) : BV w w.heap.size b ws := by
  obtain ⟨_, h2, A, h3, h4⟩ := h
  refine ⟨h3.lt, h2, A, h3, fun h0 => ?_⟩
  obtain ⟨d, e, hd, h5⟩ := h4 h0
  exact ⟨d, e, h5.lt, h5⟩
theorem BV.below {w w' : World} {U B b : Nat} {ws : List Nat} (h : BV w U b ws) (hb : Below B w w') (hU : U ≤ B) : BV w' U b ws := by
  obtain ⟨h1, h2, A, h3, h4⟩ := h
  refine ⟨h1, h2, A, h3.below hb (by omega), fun h0 => ?_⟩
  obtain ⟨d, e, hd, h5⟩ := h4 h0
  exact ⟨d, e, hd, h5.below hb (by omega)⟩
theorem BV.row {w : World} {U b : Nat} {ws : List Nat} (h : BV w U b ws) : ∃ A, w.cell? ⟨b, 0, none⟩ = some (.slice A ws.length ws.length) ∧ ∀ i : Nat, i < ws.length → ∃ d, A = some ⟨d, 0, none⟩ ∧ ∃ x : Nat, ws.getD i 0 = x ∧ x < 18446744073709551616 ∧ w.cell? ⟨d, i, none⟩ = some (.int .u64 (x : Int)) := by
  obtain ⟨h1, h2, A, h3, h4⟩ := h
  refine ⟨A, (h3.cell 0).trans rfl, fun i hi => ?_⟩
  obtain ⟨d, e, hd, h5⟩ := h4 (by omega)
  exact ⟨d, e, _, rfl, h2.getD i, (h5.cell i).trans (wordCells_at ws i hi)⟩
theorem minLen_v (w : World) (U b : Nat) (ws : List Nat) (h : BV w U b ws) (hn : ws.length ≤ 1000) :
    Calls Tryd.prog 104 #[.pointer (some ⟨b, 0, none⟩)] w fun e w' => e = .returned (.int .i64 (minB ws : Nat)) ∧ w = w' := by
  obtain ⟨A, c0, h1⟩ := h.row
  refine minLen_any w b A ws ws.length (minB ws) hn rfl c0 rfl fun i hi => ?_
  obtain ⟨d, e, x, hx, _, c1⟩ := h1 i hi
  exact ⟨d, e, x, hx, c1⟩

theorem hpos_words {w : World} (o : Obj) (A : Option Addr) (ws : List Nat) (t : TypeId) (B : Nat) (h1 : 0 < ws.length → ∃ d, A = some ⟨d, 0, none⟩ ∧ B ≤ d ∧ Blk w d t (wordCells ws)) (h : 0 < (wordList ws).length) :
    ∃ ad, A = some ad ∧ ∀ (j : Nat) u, (wordList ws)[j]? = some u → (w.alloc o).cell? (ad.add j) = some u := by
  obtain ⟨d, rfl, hd, hbd⟩ := h1 (by simpa [wordList] using h)
  refine ⟨_, rfl, fun j u hj => ?_⟩
  rw [add_new, World.cell?_alloc_lt _ _ _ hbd.lt, hbd.cell]
  simpa [wordCells] using hj

theorem or_round {w wr : World} {B b U b2 k : Nat} {ws vs : List Nat} (hs : BS wr B b (orUpto ws vs k) ∧ Keep w wr) (hb : Below B w wr) (hk : k < minB vs) (hv : BV wr U b2 vs) (hmv : minB vs ≤ vs.length) :
    ∃ d1 d2 m1 m2 x y z : Nat, m1 = max ws.length (max (minB ws) (minB vs)) ∧ m2 = vs.length ∧ wr.cell? ⟨b, 0, none⟩ = some (.slice (some ⟨d1, 0, none⟩) m1 m1) ∧ wr.cell? ⟨b2, 0, none⟩ = some (.slice (some ⟨d2, 0, none⟩) m2 m2)
      ∧ wr.cell? ⟨d1, k, none⟩ = some (.int .u64 (x : Int)) ∧ wr.cell? ⟨d2, k, none⟩ = some (.int .u64 (y : Int)) ∧ wr.frozen? ⟨d1, k, none⟩ = false ∧ bits BinOp.or IntKind.u64 (x : Int) (y : Int) = (z : Int)
      ∧ Below B w (wr.setCell ⟨d1, k, none⟩ (.int .u64 (z : Int))).drew ∧ BS (wr.setCell ⟨d1, k, none⟩ (.int .u64 (z : Int))).drew B b (orUpto ws vs (k + 1)) ∧ Keep w (wr.setCell ⟨d1, k, none⟩ (.int .u64 (z : Int))).drew := by
  obtain ⟨⟨hB, hw, A, h0, h1⟩, hkeep⟩ := hs
  have hl := orUpto_length ws vs k
  obtain ⟨d1, rfl, hd, hr⟩ := h1 (by omega)
  obtain ⟨A2, q0, q1⟩ := hv.row
  obtain ⟨d2, rfl, y, hy, hyb, q2⟩ := q1 k (by omega)
  refine ⟨d1, d2, _, _, (orUpto ws vs k).getD k 0, y, (orUpto ws vs k).getD k 0 ||| y, hl, rfl, (h0.cell 0).trans rfl, q0, (hr.cell k).trans (wordCells_at _ k (by omega)), q2, hr.frozen k, u64_or_nat _ _ (hw.getD k) hyb, (hb.setCell hd _).drew, ?_, (hkeep.set130 hr k _).drew⟩
  have := BS.word hB hd hw h0 hr k ((orUpto ws vs k).getD k 0 ||| y) (or_lt (hw.getD k) hyb)
  rw [← orUpto_set ws vs k hk, hy]
  exact this

set_option maxRecDepth 100000 in
set_option maxHeartbeats 1000000 in
theorem or_any (w : World) (B b : Nat) (ws : List Nat) (U b2 : Nat) (vs : List Nat) (h : BS w B b ws) (hv : BV w U b2 vs) (hU : U ≤ B) (hBw : B ≤ w.heap.size) (hn : ws.length ≤ 1000) (hn2 : vs.length ≤ 1000) :
    Calls Tryd.prog 81 #[.pointer (some ⟨b, 0, none⟩), .pointer (some ⟨b2, 0, none⟩)] w (BPost w B b (orB ws vs)) := by
  have hHH := h
  have hview := h.view
  obtain ⟨hB, hw, A, h0, h1⟩ := h
  have c0 : w.cell? ⟨b, 0, none⟩ = some (.slice A ws.length ws.length) := (h0.cell 0).trans rfl
  have f0 : w.frozen? ⟨b, 0, none⟩ = false := h0.frozen 0
  obtain ⟨l, hl⟩ : ∃ l, max (minB ws) (minB vs) = l := ⟨_, rfl⟩
  have hl1 := minB_le ws
  have hl2 := minB_le vs
  have hlb : l ≤ 1000 := by omega
  have hli : max (minB ws : Int) (minB vs : Int) = (l : Int) := by omega
  have hmk : ∀ W : World, (Instr.makeSlice 132 (.int .i64 (l : Int)) (.int .i64 (l : Int))).run Tryd.prog W = .ok (.slice (some ⟨W.heap.size, 0, none⟩) l l) (W.alloc (.cells (wordList (List.replicate l 0)).toArray 130)) := fun W => make_words l hlb W
  have hlt := h0.lt
  have hlen := growB_length ws l
  have Hg := Lib.hid (show (w.alloc (.cells (wordList (List.replicate l 0)).toArray 130)).heap[w.heap.size]? = some (.cells (wordList (List.replicate l 0)).toArray 130 (0, 0)) from Blk.new w 130 _)
  have Hpos := Lib.hid (fun h => hpos_words (.cells (wordList (List.replicate l 0)).toArray 130) A ws 130 B h1 h)
  have after : l > ws.length → ∀ w2 : World, w2.heap[w.heap.size]? = some (.cells (splice (wordList (List.replicate l 0)) 0 (wordList ws)).toArray 130 (0, 0)) → Below w.heap.size w w2 →
      w2.cell? ⟨b, 0, none⟩ = some (.slice A ws.length ws.length) ∧ w2.frozen? ⟨b, 0, none⟩ = false
      ∧ (Below B w (w2.setCell ⟨b, 0, none⟩ (.slice (some ⟨w.heap.size, 0, none⟩) l l))
        ∧ BS (w2.setCell ⟨b, 0, none⟩ (.slice (some ⟨w.heap.size, 0, none⟩) l l)) B b (growB ws l)
        ∧ Keep w (w2.setCell ⟨b, 0, none⟩ (.slice (some ⟨w.heap.size, 0, none⟩) l l))) := by
    intro hgt w2 hg2 hB2
    have hb2 : Blk w2 b 134 #[.slice A ws.length ws.length] := h0.below hB2 hlt
    have hd2 : Blk w2 w.heap.size 130 (wordCells (growB ws l)) := by
      rw [← words_splice]
      exact hg2
    have hL : (growB ws l).length = l := by omega
    have hb3 : Blk _ b 134 #[.slice (some ⟨w.heap.size, 0, none⟩) l l] := hb2.set_ 0 (.slice (some ⟨w.heap.size, 0, none⟩) l l)
    have hd3 := hd2.far (p := ⟨b, 0, none⟩) (by show w.heap.size ≠ b; omega) (.slice (some ⟨w.heap.size, 0, none⟩) l l)
    refine ⟨(hb2.cell 0).trans rfl, hb2.frozen 0, (hB2.mono hBw).setCell (p := ⟨b, 0, none⟩) hB _, ⟨hB, hw.grow l, _, by rw [hL]; exact hb3, fun _ => ⟨_, rfl, hBw, hd3⟩⟩, (Keep.below hB2).set134 hb2 0 _⟩
  have After := Lib.hid after
  clear after
  have Hsame := Lib.hid (fun (h : ¬ l > ws.length) => show growB ws l = ws by simp [growB, show l - ws.length = 0 by omega])
  have HV := Lib.hid hv
  have Hview := Lib.hid hview
  have HH := Lib.hid hHH
  have Hlen := Lib.hid hlen
  have Hl := Lib.hid hl
  have H1 := Lib.hid h1
  have H0 := Lib.hid h0
  have Hw := Lib.hid hw
  have Hmw : Hid (minB ws ≤ ws.length) := hl1
  have Hmv : Hid (minB vs ≤ vs.length) := hl2
  have hcl : l > ws.length → (wordList ws).length = Nat.min ws.length l := by
    intro h
    show _ = min ws.length l
    simp [wordList]
    omega
  have hfit : l > ws.length → 0 + (wordList ws).length ≤ (wordList (List.replicate l 0)).length := by intro h; simp [wordList]; omega
  have Hcl := Lib.hid hcl
  have Hfit := Lib.hid hfit
  clear hv hHH hview hlen hl h1 h0 hw hl1 hl2 hcl hfit
  obtain ⟨mw, hmw⟩ : ∃ mw, minB ws = mw := ⟨_, rfl⟩
  obtain ⟨mv, hmv⟩ : ∃ mv, minB vs = mv := ⟨_, rfl⟩
  obtain ⟨n, hnn⟩ : ∃ n, ws.length = n := ⟨_, rfl⟩
  rw [hmw, hmv] at hli
  rw [hnn] at c0 hn
  have Hmw2 := Lib.hid hmw
  have Hmv2 := Lib.hid hmv
  have Hnn := Lib.hid hnn
  clear hmw hmv hnn
  go_enter Tryd.func81, Tryd.ntmps81
  go_upto_if 22 with (first
    | (go_at_call 104; go_fit (minLen_v _ _ b ws Hview.out (by have := Hnn.out; omega)); rw [Hmw2.out]; rintro e w' ⟨rfl, rfl⟩)
    | (go_at_call 104; go_fit (minLen_v _ _ b2 vs HV.out hn2); rw [Hmv2.out]; rintro e w' ⟨rfl, rfl⟩)
    | (go_at_call 105; go_fit (intMax_any _ _ _); rw [hli]; rintro e w' ⟨rfl, rfl⟩))
  go_cut [] (fun wx => Below B w wx ∧ BS wx B b (growB ws l) ∧ Keep w wx)
  case first =>
    by_cases hgt : l > n
    · have hin : Nat.min n l = n := Nat.min_eq_left (by omega)
      have Hgt2 : Hid (l > ws.length) := by rw [← Hnn.out] at hgt; exact hgt
      go_wp2_with
        (with_reducible refine wpList_copy_splice (o := ⟨some 30, _, _, _, _, _⟩) ?_ (.tmp 25) (.tmp 29) 132 132 ?_ 130 Tryd.underlying132 info130 (some ⟨w.heap.size, 0, none⟩) A l l n n ?_ ?_ w.heap.size 0 (wordList (List.replicate l 0)) 130 Hg.out (wordList ws) ?_ ?_ (Hfit.out Hgt2.out) (words_one ws) w.heap.size w ?_ (Nat.le_refl _) ?_
         · exact rfl
         · exact rfl
         · exact rfl
         · exact rfl
         · rw [Hcl.out Hgt2.out, Hnn.out]
         · intro h
           exact ⟨rfl, Hpos.out h⟩
         · exact (Below.refl _ _).alloc (Nat.le_refl _) _
         intro w2 HG2 hB2
         obtain ⟨c2, f2, hend⟩ := After.out Hgt2.out w2 HG2.out hB2
         rw [Hnn.out] at c2
         have HE := Lib.hid hend
         clear hend HG2)
      go_meet
      case rel => exact HE.out
    · go_wp2_with fail
      go_meet
      case rel => exact ⟨Below.refl _ _, by rw [Hsame.out (by rw [Hnn.out]; exact hgt)]; exact HH.out, Keep.refl _⟩
  case rest =>
    obtain ⟨hb, hs⟩ := hcut
    have HB := Lib.hid hb
    have HS := Lib.hid hs
    clear hb hs
    go_wp2_with fail
    go_loopw [8] (fun s8 wr => ∃ k : Nat, k ≤ mv ∧ s8 = .int .i64 (k : Int) ∧ Below B w wr ∧ BS wr B b (orUpto ws vs k) ∧ Keep w wr) (fun s8 _ => mv - (intOf s8).toNat)
    case atStart => exact ⟨0, Nat.zero_le _, rfl, HB.out, by rw [orUpto_zero, Hl.out]; exact HS.out.1, HS.out.2⟩
    case round =>
      obtain ⟨k, hk, rfl, hb, hs⟩ := hrel
      by_cases hlt : k < mv
      · have hkm : k < minB vs := by rw [Hmv2.out]; exact hlt
        have Hfacts := Lib.hid (or_round (w := w) hs hb hkm (HV.out.below hb hU) Hmv.out)
        have hlen1 := orUpto_length ws vs k
        have hl3 := Hl.out
        have hl4 := Hnn.out
        clear hs
        obtain ⟨d1, d2, m1, m2, x, y, z, hm1, hm2, c1, c2, c3, c4, f3, hor, hbe, hse⟩ := Hfacts.out
        have HBe := Lib.hid hbe
        have HSe := Lib.hid hse
        have hm1' : m1 ≤ 1000 := by omega
        have hm2' : m2 ≤ 1000 := by omega
        have hk1 : k < m1 := by omega
        have hk2 : k < m2 := by have := Hmv.out; omega
        clear hb hbe hse hlen1 hl3 hl4 hm1 hm2 Hfacts
        go_upto_region 10 with fail
        go_region
        all_goals go_wp2
        all_goals go_roundw
        all_goals first
          | exact ⟨k + 1, by omega, rfl, HBe.out, HSe.out⟩
          | (simp [intOf]; omega)
      · have hkk : k = mv := by omega
        subst hkk
        have HS2 := Lib.hid hs
        have HB2 := Lib.hid hb
        clear hs hb
        go_wp2
        go_end0
        exact ⟨rfl, HB2.out, by rw [orB, Hmv2.out]; exact HS2.out.1, HS2.out.2⟩
end Go.Proofs.YtiffjbpejlnndaaDoor
