/-
  The methods of a bit set that write: add, remove. Conditions: numbers from 0 to 1000; the set's block and its row of words are known whole.
-/
import Derived.Test.YtiffjbpejlnndaaDoorBit1
import Derived.Deep.RegionWith
import Derived.Deep.OwnRows
import Derived.Laws.CopyOwn
namespace Go.Proofs.YtiffjbpejlnndaaDoor
open Go.RowKit

def wordList (ws : List Nat) : List Value := ws.map fun x : Nat => Value.int .u64 (x : Int)
def wordCells (ws : List Nat) : Array Value := (wordList ws).toArray
theorem wordCells_at (ws : List Nat) (i : Nat) (h : i < ws.length) : (wordCells ws)[i]? = some (.int .u64 ((ws.getD i 0 : Nat) : Int)) := by
  simp [wordCells, wordList, List.getD_eq_getElem?_getD, h]
theorem wordCells_set (ws : List Nat) (i x : Nat) : (wordCells ws).setIfInBounds i (.int .u64 (x : Int)) = wordCells (ws.set i x) := by
  apply Array.toList_inj.1
  simp [wordCells, wordList, List.map_set]

/-- Block b is a bit set with these words; it and its row lie from block B on. -/
def BS (w : World) (B b : Nat) (ws : List Nat) : Prop :=
  B ≤ b ∧ Words ws ∧ ∃ A, Blk w b 134 #[.slice A ws.length ws.length] ∧ (0 < ws.length → ∃ d, A = some ⟨d, 0, none⟩ ∧ B ≤ d ∧ Blk w d 130 (wordCells ws))
theorem BS.lt {w : World} {B b : Nat} {ws : List Nat} (h : BS w B b ws) : b < w.heap.size := by
  obtain ⟨_, _, A, hb, _⟩ := h
  exact hb.lt
theorem BS.below {w w' : World} {B b : Nat} {ws : List Nat} (h : BS w B b ws) (hb : Below w.heap.size w w') : BS w' B b ws := by
  obtain ⟨h1, h2, A, h3, h4⟩ := h
  refine ⟨h1, h2, A, h3.below hb h3.lt, fun h0 => ?_⟩
  obtain ⟨d, e, hd, h5⟩ := h4 h0
  exact ⟨d, e, hd, h5.below hb h5.lt⟩
theorem BS.mono {w : World} {B B' b : Nat} {ws : List Nat} (h : BS w B b ws) (hB : B' ≤ B) : BS w B' b ws := by
  obtain ⟨h1, h2, A, h3, h4⟩ := h
  refine ⟨Nat.le_trans hB h1, h2, A, h3, fun h0 => ?_⟩
  obtain ⟨d, e, hd, h5⟩ := h4 h0
  exact ⟨d, e, Nat.le_trans hB hd, h5⟩

/-- Behind a store of a word. -/
theorem BS.word {w : World} {B b d : Nat} {ws : List Nat} (hB : B ≤ b) (hd : B ≤ d) (hw : Words ws) (h0 : Blk w b 134 #[.slice (some ⟨d, 0, none⟩) ws.length ws.length]) (h1 : Blk w d 130 (wordCells ws)) (i x : Nat) (hx : x < 18446744073709551616) :
    BS (w.setCell ⟨d, i, none⟩ (.int .u64 (x : Int))).drew B b (ws.set i x) := by
  refine ⟨hB, hw.set_ i hx, some ⟨d, 0, none⟩, ?_, fun _ => ⟨d, rfl, hd, ?_⟩⟩
  · rw [List.length_set]
    exact (h0.far (p := ⟨d, i, none⟩) (Blk.ne_ h0 h1 (by decide)) _).drew
  · rw [← wordCells_set]
    exact (h1.set_ i _).drew

/-- Blocks of other types are as they were. -/
def Keep (w w' : World) : Prop := ∀ (g : Nat) (t : TypeId) (cs : Array Value), t ≠ 130 → t ≠ 134 → Blk w g t cs → Blk w' g t cs
theorem Keep.refl (w : World) : Keep w w := fun _ _ _ _ _ h => h
theorem Keep.trans {a b c : World} (h : Keep a b) (k : Keep b c) : Keep a c := fun g t cs h1 h2 h3 => k g t cs h1 h2 (h g t cs h1 h2 h3)
theorem Keep.below {w w' : World} (h : Below w.heap.size w w') : Keep w w' := fun _ _ _ _ _ hb => hb.below h hb.lt
theorem Keep.drew {w w' : World} (h : Keep w w') : Keep w w'.drew := h
theorem Keep.set130 {w w' : World} {d : Nat} {c0 : Array Value} (h : Keep w w') (hd : Blk w' d 130 c0) (i : Nat) (u : Value) : Keep w (w'.setCell ⟨d, i, none⟩ u) :=
  fun g t cs h1 h2 h3 => (h g t cs h1 h2 h3).far (p := ⟨d, i, none⟩) (Blk.ne_ (h g t cs h1 h2 h3) hd h1) u
theorem Keep.set134 {w w' : World} {d : Nat} {c0 : Array Value} (h : Keep w w') (hd : Blk w' d 134 c0) (i : Nat) (u : Value) : Keep w (w'.setCell ⟨d, i, none⟩ u) :=
  fun g t cs h1 h2 h3 => (h g t cs h1 h2 h3).far (p := ⟨d, i, none⟩) (Blk.ne_ (h g t cs h1 h2 h3) hd h2) u
def BPost (w : World) (B b : Nat) (ws : List Nat) (e : Ending) (w' : World) : Prop := e = .returned (.tuple #[]) ∧ Below B w w' ∧ BS w' B b ws ∧ Keep w w'

theorem add_in (w : World) (B b d : Nat) (ws : List Nat) (v i m x : Nat) (hB : B ≤ b) (hd : B ≤ d) (hw : Words ws) (h0 : Blk w b 134 #[.slice (some ⟨d, 0, none⟩) ws.length ws.length]) (h1 : Blk w d 130 (wordCells ws))
    (hv : v ≤ 1000) (hi : v / 64 = i) (hm : 2 ^ (v % 64) = m) (hlt : i < ws.length) (hx : ws.getD i 0 = x) (hxb : x < 18446744073709551616) :
    Calls Tryd.prog 75 #[.pointer (some ⟨b, 0, none⟩), .int .i64 v] w (BPost w B b (ws.set i (x ||| m))) := by
  have c0 : w.cell? ⟨b, 0, none⟩ = some (.slice (some ⟨d, 0, none⟩) ws.length ws.length) := (h0.cell 0).trans rfl
  have c1 : w.cell? ⟨d, i, none⟩ = some (.int .u64 (x : Int)) := (h1.cell i).trans (by rw [wordCells_at ws i hlt, hx])
  have f1 : w.frozen? ⟨d, i, none⟩ = false := h1.frozen i
  have hmb := two_pow_lt (Nat.mod_lt v (show 0 < 64 by omega))
  rw [hm] at hmb
  have hor : bits BinOp.or IntKind.u64 (x : Int) (m : Int) = ((x ||| m : Nat) : Int) := u64_or_nat x m hxb hmb
  have hend := And.intro (BS.word hB hd hw h0 h1 i (x ||| m) (or_lt hxb hmb)) ((Keep.refl w).set130 h1 i (.int .u64 ((x ||| m : Nat) : Int))).drew
  generalize hxm : x ||| m = y at *
  have Hi := Lib.hid hi
  have Hm := Lib.hid hm
  have Hx := Lib.hid hx
  have HE := Lib.hid hend
  generalize ws.length = n at *
  clear hi hm hx h0 h1 hxm hend
  go_enter Tryd.func75, Tryd.ntmps75
  go_wp2_with (go_at_call 96; refine (indexFor _ v i hv Hi.out).mono ?_; rintro e w' ⟨rfl, rfl⟩)
  go_region_with (go_at_call 98; refine (maskFor _ v m hv Hm.out).mono ?_; rintro e w' ⟨rfl, rfl⟩)
  all_goals go_wp2
  all_goals go_end0
  all_goals exact ⟨rfl, ((Below.refl _ _).setCell hd _).drew, HE.out⟩

theorem make_words (n : Nat) (hn : n ≤ 1000) (W : World) : (Instr.makeSlice 132 (.int .i64 (n : Int)) (.int .i64 (n : Int))).run Tryd.prog W = .ok (.slice (some ⟨W.heap.size, 0, none⟩) n n) (W.alloc (.cells (wordList (List.replicate n 0)).toArray 130)) := by
  have h := run_make_row' (P := Tryd.prog) 132 130 (.int .u64 0) 8 Tryd.underlying132 (by kernel_rfl) rfl .i64 .i64 n (by omega) (by omega) W
  rw [h]
  have e : madeCells #[.int .u64 0] n = (wordList (List.replicate n 0)).toArray := by
    apply Array.toList_inj.1
    rw [toList_madeCells_one]
    simp [wordList]
  rw [e]
theorem words_splice (ws : List Nat) (n : Nat) : (splice (wordList (List.replicate n 0)) 0 (wordList ws)).toArray = wordCells (growB ws n) := by
  apply Array.toList_inj.1
  simp [splice, wordCells, wordList, growB]
theorem words_one (ws : List Nat) : ∀ u ∈ wordList ws, u.oneCell' = true := by
  intro u hu
  simp [wordList] at hu
  obtain ⟨x, _, rfl⟩ := hu
  rfl
theorem info130 : (Tryd.prog.info? 130).map (·.size) = some 1 := by kernel_rfl

set_option maxRecDepth 100000 in
theorem add_grow (w : World) (B b : Nat) (A : Option Addr) (ws : List Nat) (v i m : Nat) (hB : B ≤ b) (hBw : B ≤ w.heap.size) (hw : Words ws) (h0 : Blk w b 134 #[.slice A ws.length ws.length])
    (h1 : 0 < ws.length → ∃ d, A = some ⟨d, 0, none⟩ ∧ B ≤ d ∧ Blk w d 130 (wordCells ws))
    (hv : v ≤ 1000) (hi : v / 64 = i) (hm : 2 ^ (v % 64) = m) (hge : ws.length ≤ i) :
    Calls Tryd.prog 75 #[.pointer (some ⟨b, 0, none⟩), .int .i64 v] w (BPost w B b ((growB ws (i + 1)).set i (0 ||| m))) := by
  have c0 : w.cell? ⟨b, 0, none⟩ = some (.slice A ws.length ws.length) := (h0.cell 0).trans rfl
  have f0 : w.frozen? ⟨b, 0, none⟩ = false := h0.frozen 0
  have hmb := two_pow_lt (Nat.mod_lt v (show 0 < 64 by omega))
  rw [hm] at hmb
  have hlen := growB_length ws (i + 1)
  have hor : bits BinOp.or IntKind.u64 (0 : Int) (m : Int) = (m : Int) := by
    have := u64_or_nat 0 m (by omega) hmb
    rw [Nat.zero_or] at this
    exact this
  have hib : i ≤ 1000 := by omega
  have hmk : ∀ W : World, (Instr.makeSlice 132 (.int .i64 ((i : Int) + 1)) (.int .i64 ((i : Int) + 1))).run Tryd.prog W = .ok (.slice (some ⟨W.heap.size, 0, none⟩) (i + 1) (i + 1)) (W.alloc (.cells (wordList (List.replicate (i + 1) 0)).toArray 130)) := fun W => make_words (i + 1) (by omega) W
  have hlt := h0.lt
  have hg : (w.alloc (.cells (wordList (List.replicate (i + 1) 0)).toArray 130)).heap[w.heap.size]? = some (.cells (wordList (List.replicate (i + 1) 0)).toArray 130 (0, 0)) := Blk.new w 130 _
  have hcl : (wordList ws).length = Nat.min ws.length (i + 1) := by
    show _ = min ws.length (i + 1)
    simp [wordList]
    omega
  have hfit : 0 + (wordList ws).length ≤ (wordList (List.replicate (i + 1) 0)).length := by simp [wordList]; omega
  have hpos : 0 < (wordList ws).length → (some ⟨w.heap.size, 0, none⟩ : Option Addr) = some ⟨w.heap.size, 0, none⟩ ∧ ∃ ad, A = some ad ∧ ∀ (j : Nat) u, (wordList ws)[j]? = some u → (w.alloc (.cells (wordList (List.replicate (i + 1) 0)).toArray 130)).cell? (ad.add j) = some u := by
    intro h
    obtain ⟨d, rfl, hd, hbd⟩ := h1 (by simpa [wordList] using h)
    refine ⟨rfl, _, rfl, fun j u hj => ?_⟩
    rw [add_new, World.cell?_alloc_lt _ _ _ hbd.lt, hbd.cell]
    simpa [wordCells] using hj
  have after : ∀ w2 : World, w2.heap[w.heap.size]? = some (.cells (splice (wordList (List.replicate (i + 1) 0)) 0 (wordList ws)).toArray 130 (0, 0)) → Below w.heap.size w w2 →
      w2.cell? ⟨b, 0, none⟩ = some (.slice A ws.length ws.length) ∧ w2.frozen? ⟨b, 0, none⟩ = false
      ∧ (w2.setCell ⟨b, 0, none⟩ (.slice (some ⟨w.heap.size, 0, none⟩) (i + 1) (i + 1))).cell? ⟨b, 0, none⟩ = some (.slice (some ⟨w.heap.size, 0, none⟩) (i + 1) (i + 1))
      ∧ (w2.setCell ⟨b, 0, none⟩ (.slice (some ⟨w.heap.size, 0, none⟩) (i + 1) (i + 1))).cell? ⟨w.heap.size, i, none⟩ = some (.int .u64 0)
      ∧ (w2.setCell ⟨b, 0, none⟩ (.slice (some ⟨w.heap.size, 0, none⟩) (i + 1) (i + 1))).frozen? ⟨w.heap.size, i, none⟩ = false
      ∧ (Below B w ((w2.setCell ⟨b, 0, none⟩ (.slice (some ⟨w.heap.size, 0, none⟩) (i + 1) (i + 1))).setCell ⟨w.heap.size, i, none⟩ (.int .u64 (m : Int))).drew
        ∧ BS ((w2.setCell ⟨b, 0, none⟩ (.slice (some ⟨w.heap.size, 0, none⟩) (i + 1) (i + 1))).setCell ⟨w.heap.size, i, none⟩ (.int .u64 (m : Int))).drew B b ((growB ws (i + 1)).set i (0 ||| m))
        ∧ Keep w ((w2.setCell ⟨b, 0, none⟩ (.slice (some ⟨w.heap.size, 0, none⟩) (i + 1) (i + 1))).setCell ⟨w.heap.size, i, none⟩ (.int .u64 (m : Int))).drew) := by
    intro w2 hg2 hB2
    have hb2 : Blk w2 b 134 #[.slice A ws.length ws.length] := h0.below hB2 hlt
    have hd2 : Blk w2 w.heap.size 130 (wordCells (growB ws (i + 1))) := by
      rw [← words_splice]
      exact hg2
    have hL : (growB ws (i + 1)).length = i + 1 := by omega
    have hb3 : Blk _ b 134 #[.slice (some ⟨w.heap.size, 0, none⟩) (i + 1) (i + 1)] := hb2.set_ 0 (.slice (some ⟨w.heap.size, 0, none⟩) (i + 1) (i + 1))
    have hd3 := hd2.far (p := ⟨b, 0, none⟩) (by show w.heap.size ≠ b; omega) (.slice (some ⟨w.heap.size, 0, none⟩) (i + 1) (i + 1))
    have hz : (growB ws (i + 1)).getD i 0 = 0 := by
      rw [growB_getD, List.getD_eq_getElem?_getD, List.getElem?_eq_none hge]
      rfl
    refine ⟨(hb2.cell 0).trans rfl, hb2.frozen 0, (hb3.cell 0).trans rfl, ?_, hd3.frozen i, ?_, ?_, (((Keep.below hB2).set134 hb2 0 _).set130 hd3 i _).drew⟩
    · rw [hd3.cell, wordCells_at _ i (by omega), hz]
      rfl
    · exact ((((hB2.mono hBw).setCell (p := ⟨b, 0, none⟩) hB _)).setCell (p := ⟨w.heap.size, i, none⟩) hBw _).drew
    · have := BS.word hB hBw (hw.grow (i + 1)) (by rw [hL]; exact hb3) hd3 i (0 ||| m) (by rw [Nat.zero_or]; exact hmb)
      rw [Nat.zero_or] at this ⊢
      exact this
  have After := Lib.hid after
  clear after
  have Hg := Lib.hid hg
  have Hcl := Lib.hid hcl
  have Hfit := Lib.hid hfit
  have Hpos := Lib.hid hpos
  clear hg hcl hfit hpos
  have Hi := Lib.hid hi
  have Hm := Lib.hid hm
  have H1 := Lib.hid h1
  have H0 := Lib.hid h0
  have Hw := Lib.hid hw
  have hn : ws.length = ws.length := rfl
  generalize hnn : ws.length = n at *
  have Hn := Lib.hid hnn
  clear hi hm h0 h1 hw hlen hn hnn
  go_enter Tryd.func75, Tryd.ntmps75
  go_wp2_with (first
    | (go_at_call 96; refine (indexFor _ v i hv Hi.out).mono ?_; rintro e w' ⟨rfl, rfl⟩)
    | (go_at_call 97; refine (wordsNeeded _ v i hv Hi.out).mono ?_; rintro e w' ⟨rfl, rfl⟩)
    | (with_reducible refine wpList_copy_splice (o := ⟨some 25, _, _, _, _, _⟩) ?_ (.tmp 20) (.tmp 24) 132 132 ?_ 130 Tryd.underlying132 info130 (some ⟨w.heap.size, 0, none⟩) A (i + 1) (i + 1) n n ?_ ?_ w.heap.size 0 (wordList (List.replicate (i + 1) 0)) 130 Hg.out (wordList ws) Hcl.out ?_ Hfit.out (words_one ws) w.heap.size w ?_ (Nat.le_refl _) ?_
       · exact rfl
       · exact rfl
       · exact rfl
       · exact rfl
       · intro h
         have h2 := Hpos.out h
         first | exact h2 | exact ⟨rfl, h2.2⟩
       · exact (Below.refl _ _).alloc (Nat.le_refl _) _
       intro w2 HG2 hB2
       obtain ⟨c2, f2, c3, c4, f4, hend⟩ := After.out w2 HG2.out hB2
       have HE := Lib.hid hend
       clear hend HG2))
  go_region_with (go_at_call 98; refine (maskFor _ v m hv Hm.out).mono ?_; rintro e w' ⟨rfl, rfl⟩)
  all_goals go_wp2
  all_goals go_end0
  all_goals exact ⟨rfl, HE.out⟩
end Go.Proofs.YtiffjbpejlnndaaDoor
