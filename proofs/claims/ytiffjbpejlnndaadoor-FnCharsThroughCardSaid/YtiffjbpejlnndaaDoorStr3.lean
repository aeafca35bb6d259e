/-
  The runes of a text, NewInputStream, Characters, charsFit. Conditions: the text is shorter than 2^31; the two tables of unicode/utf8 hold what they are laid as.
-/
import Derived.Test.YtiffjbpejlnndaaDoorStr2
import Derived.Test.YtiffjbpejlnndaaDoorShelfV
import Derived.Lib.LaidU8T
import Derived.Lib.TrimU
namespace Go.Proofs.YtiffjbpejlnndaaDoor
open Go.RowKit

/-- The code points of a text from place i on. -/
def runesOf (s : ByteArray) : Nat → Nat → List Nat
  | 0, _ => []
  | b + 1, i => if i < s.size then (Utf8.decode s i).1 :: runesOf s b (i + (Utf8.decode s i).2) else []
def runes (s : ByteArray) : List Nat := runesOf s s.size 0
theorem runesFrom_eq (s : ByteArray) : ∀ (b i : Nat) (acc : Array Value), (Conv.runesFrom s b i acc).toList = acc.toList ++ (runesOf s b i).map fun r : Nat => Value.int .i32 (r : Int)
  | 0, _, acc => by simp [Conv.runesFrom, runesOf]
  | b + 1, i, acc => by
    unfold Conv.runesFrom runesOf
    split
    · simp [runesFrom_eq s b]
    · simp
def runeCells (l : List Nat) : Array Value := (l.map fun r : Nat => Value.int .i32 (r : Int)).toArray
theorem runes_cells (s : ByteArray) : Conv.runesFrom s s.size 0 #[] = runeCells (runes s) := by
  unfold runeCells
  apply Array.toList_inj.1
  simp [runesFrom_eq, runes]
theorem runes_length (s : ByteArray) : (runes s).length ≤ s.size := by
  have := size_runesFrom s s.size 0 #[]
  rw [runes_cells] at this
  simpa [runeCells] using this
theorem runesOf_le (s : ByteArray) : ∀ (b i : Nat), ∀ r ∈ runesOf s b i, r ≤ 2147483647
  | 0, _, r, h => by simp [runesOf] at h
  | b + 1, i, r, h => by
    unfold runesOf at h
    split at h
    · rcases List.mem_cons.1 h with rfl | h
      · have := Lib.rune_le s i
        omega
      · exact runesOf_le s b _ r h
    · simp at h
theorem runes_le (s : ByteArray) : ∀ r ∈ runes s, r ≤ 2147483647 := runesOf_le s _ _

/-- Block g is a row of runes: those of l, in its first places. -/
def RuneRow (w : World) (g : Nat) (l : List Nat) : Prop := ∃ C, Blk w g 21 C ∧ ∀ j r : Nat, l[j]? = some r → C[j]? = some (.int .i32 (r : Int))
theorem RuneRow.cell {w : World} {g : Nat} {l : List Nat} (h : RuneRow w g l) {j r : Nat} (hj : l[j]? = some r) : w.cell? ⟨g, j, none⟩ = some (.int .i32 (r : Int)) := by
  obtain ⟨C, hb, hC⟩ := h
  exact (hb.cell j).trans (hC j r hj)
theorem RuneRow.alloc {w : World} {g : Nat} {l : List Nat} (h : RuneRow w g l) (o : Obj) : RuneRow (w.alloc o) g l := by
  obtain ⟨C, hb, hC⟩ := h
  exact ⟨C, hb.alloc o, hC⟩
theorem RuneRow.grown {w w' : World} {g : Nat} {l : List Nat} {row : Option Nat} (h : RuneRow w g l) (hb : w.grownBy w' row) (hg : some g ≠ row) : RuneRow w' g l := by
  obtain ⟨C, hb', hC⟩ := h
  exact ⟨C, hb'.grown hb hg, hC⟩
theorem RuneRow.below {w w' : World} {g : Nat} {l : List Nat} (h : RuneRow w g l) (hb : Below w.heap.size w w') : RuneRow w' g l := by
  obtain ⟨C, hb', hC⟩ := h
  exact ⟨C, hb'.below hb hb'.lt, hC⟩

theorem run_runes (w : World) (s : ByteArray) (hs : s.size ≤ 2147483647) :
    ∃ c C, (convert 9 22 (.string s)).run Tryd.prog w = .ok (.slice (some ⟨w.heap.size, 0, none⟩) (runes s).length c) (w.drew.alloc (.cells C 21)) ∧ (runes s).length ≤ c ∧
      (∀ j r : Nat, (runes s)[j]? = some r → C[j]? = some (.int .i32 (r : Int))) := by
  have hl := runes_length s
  have h := run_runes_of_string (P := Tryd.prog) w 9 22 21 s Tryd.underlying9 Tryd.underlying22 Tryd.underlying21 (by rw [runes_cells]; simp [runeCells]; omega)
  rw [runes_cells] at h
  have hz : (runeCells (runes s)).size = (runes s).length := by simp [runeCells]
  rw [hz] at h
  refine ⟨_, _, h, ?_, fun j r hj => ?_⟩
  · exact grownCap_ge w _ 0 21
  · have hlt : j < (runes s).length := (List.getElem?_eq_some_iff.1 hj).1
    rw [Array.getElem?_append_left (by rw [hz]; exact hlt)]
    simp [runeCells, hj]

theorem newStream (w : World) (s : ByteArray) (hs : s.size ≤ 2147483647) :
    Calls Tryd.prog 35 #[.string s] w fun e w' => ∃ b g c, e = .returned (.pointer (some ⟨b, 0, none⟩)) ∧ Strm w' b 0 g (runes s).length c ∧ w.heap.size ≤ b ∧ w.heap.size ≤ g ∧ g ≠ b ∧
      RuneRow w' g (runes s) ∧ Below w.heap.size w w' := by
  obtain ⟨c, C, hrun, hc, hC⟩ := run_runes w s hs
  have hl := runes_length s
  have HC := Lib.hid hC
  clear hC
  generalize hn : (runes s).length = n at *
  have Hn := Lib.hid hn
  clear hn
  go_enter Tryd.func35, Tryd.ntmps35
  go_wp2
  go_ret
  refine ⟨w.heap.size + 1, w.heap.size, c, rfl, ?_, by omega, Nat.le_refl _, by omega, ?_, (((Below.refl _ _).alloc (Nat.le_refl _) _).alloc (by simp) _).drew⟩
  · have h := Blk.new (w.alloc (.cells C 21)) 118 (strmCells 0 w.heap.size n c)
    rw [show (w.alloc (.cells C 21)).heap.size = w.heap.size + 1 by simp] at h
    exact h
  · exact ⟨C, (Blk.new w 21 C).alloc _, HC.out⟩

theorem width_pos (s : ByteArray) (pos : Nat) (h : pos < s.size) : 1 ≤ (Utf8.decode s pos).2 := by
  by_cases ha : (s[pos]'h).toNat < 128
  · rw [decode_ascii s pos h ha]
    exact Nat.le_refl _
  · exact (decode_high s pos h (by omega)).2

def SomeBool (w : World) (e : Ending) (w' : World) : Prop := ∃ b, e = .returned (.bool b) ∧ Below w.heap.size w w'
theorem below_iter (w : World) (s : ByteArray) (p : Nat) : Below w.heap.size w (w.iter s p) := (Below.refl _ _).alloc (Nat.le_refl _) _

set_option maxRecDepth 1000000 in
theorem characters_any (s : ByteArray) (w : World) : Calls Tryd.prog 34 #[.string s] w (SomeBool w) := by
  go_enter Tryd.func34, Tryd.ntmps34
  go_wp2
  go_loopw [4] (fun n w' => ∃ (pos : Nat), w' = w.iter s pos) (fun _ w' => s.size - w'.iterPos w.heap.size)
  case atStart => exact ⟨0, rfl⟩
  case round =>
    obtain ⟨pos, rfl⟩ := hrel
    by_cases hp : pos < s.size
    · have hnx : ∀ ty, (Instr.next (.pointer (some ⟨w.heap.size, 0, none⟩)) true ty).run Tryd.prog (w.iter s pos) = _ := fun ty => run_next_any w s pos ty hp
      have hwd := width_pos s pos hp
      go_wp2
      · go_ret
        exact ⟨_, rfl, below_iter _ _ _⟩
      · go_roundw
        case rel => exact ⟨_, rfl⟩
        case measure =>
          simp
          omega
    · have hnx : ∀ ty, (Instr.next (.pointer (some ⟨w.heap.size, 0, none⟩)) true ty).run Tryd.prog (w.iter s pos) = _ := fun ty => run_next_end w s pos ty hp
      go_wp2
      go_ret
      exact ⟨_, rfl, below_iter _ _ _⟩

def U8Tabs (w : World) : Prop := Lib.Utf8Tabs (Tryd.laysValid_ren.g 3) (Tryd.laysValid_ren.g 4) w
theorem U8Tabs.below {w w' : World} (h : U8Tabs w) (hb : Below w.heap.size w w') : U8Tabs w' :=
  ⟨fun c hc => (hb.cell (World.block_lt_of_cell? w _ (h.1 c hc))).trans (h.1 c hc), fun i hi =>
    ⟨(hb.cell (World.block_lt_of_cell? w _ (h.2 i hi).1)).trans (h.2 i hi).1, (hb.cell (World.block_lt_of_cell? w _ (h.2 i hi).2)).trans (h.2 i hi).2⟩⟩
theorem valid_any (s : ByteArray) (w : World) (hs : s.size ≤ 2147483647) (hT : U8Tabs w) : Calls Tryd.prog 33 #[.string s] w (SomeBool w) :=
  (Any.utf8_ValidString Tryd.laysValid s w (by omega) hT).mono fun _ _ h => ⟨_, h.1, h.2⟩

theorem fit_any (s : ByteArray) (w : World) (hs : s.size ≤ 2147483647) (hT : U8Tabs w) : Calls Tryd.prog 9 #[.string s, .slice none 0 0] w (SomeBool w) := by
  by_cases h2 : s.size ≤ 200
  · go_enter Tryd.func9, Tryd.ntmps9
    go_wp2_with (first | (go_at_call 33; refine (valid_any s w hs hT).mono ?_; rintro e w1 ⟨b1, rfl, hb1⟩; cases b1) | (go_at_call 34; refine (characters_any s _).mono ?_; rintro e w2 ⟨b2, rfl, hb2⟩; cases b2))
    · go_ret
      exact ⟨_, rfl, hb1⟩
    · go_ret
      exact ⟨_, rfl, hb1.trans (hb2.mono hb1.size)⟩
    · go_ret
      exact ⟨_, rfl, hb1.trans (hb2.mono hb1.size)⟩
  · go_enter Tryd.func9, Tryd.ntmps9
    go_wp2_with fail
    go_ret
    exact ⟨_, rfl, Below.refl _ _⟩
end Go.Proofs.YtiffjbpejlnndaaDoor
