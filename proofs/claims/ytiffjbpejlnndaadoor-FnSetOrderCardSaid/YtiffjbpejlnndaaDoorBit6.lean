/-
  A bit set is read: the least number, the text. Conditions: as in Bit2; the library's two tables as they are laid.
-/
import Derived.Test.YtiffjbpejlnndaaDoorBit5
import Derived.Test.YtiffjbpejlnndaaDoorEls
import Derived.Test.YtiffjbpejlnndaaDoorShelfB
import Derived.Lib.AppendIntMem
import Derived.Laws.MakeOwn
import Derived.OwnWalk
namespace Go.Proofs.YtiffjbpejlnndaaDoor
open Go.RowKit

def Tabs (w : World) : Prop := TabAt 2 Lib.deBruijn64tab w ∧ Lib.TabIs Tryd.prog w "internal/strconv.uint64pow10" .u64 Lib.pow10Tab
theorem Tabs.below {w w' : World} (h : Tabs w) (hb : Below w.heap.size w w') : Tabs w' :=
  ⟨fun j hj => (hb.cell (World.block_lt_of_cell? w _ (h.1 j hj))).trans (h.1 j hj), Lib.tabBelow_of_tabIs h.2 w' hb⟩
def BTabs (B : Nat) (w : World) : Prop := ∀ w', Below B w w' → Tabs w'
theorem Tabs.b {w : World} (h : Tabs w) : BTabs w.heap.size w := fun _ hb => h.below hb
theorem BTabs.here {B : Nat} {w : World} (h : BTabs B w) : Tabs w := h w (Below.refl _ _)
theorem BTabs.below {B B' : Nat} {w w' : World} (h : BTabs B w) (hb : Below B' w w') (hB : B ≤ B') : BTabs B w' := fun w2 h2 => h w2 ((hb.mono hB).trans h2)

theorem ctz_any (w : World) (x : Nat) (hx : x < 18446744073709551616) (hT : Tabs w) : Calls Tryd.prog 101 #[.int .u64 x] w fun e w' => e = .returned (.int .i64 (Lib.ctz 64 x)) ∧ w = w' :=
  (Tryd.bits_TrailingZeros64 x hx w fun _ => hT.1).mono fun _ _ h => ⟨h.1, h.2.symm⟩
theorem ctz_le (x : Nat) : Lib.ctz 64 x ≤ 64 := by
  unfold Lib.ctz
  split
  · omega
  · have : ∀ f y, Lib.ctzFrom f y ≤ f := by
      intro f
      induction f with
      | zero => intro y; exact Nat.le_refl _
      | succ f ih =>
        intro y
        unfold Lib.ctzFrom
        split
        · omega
        · have := ih (y / 2); omega
    exact this 64 x
theorem els_some (ws : List Nat) (k : Nat) (x : Nat) (hx : ws.getD k 0 = x) (hxb : x < 18446744073709551616) (h0 : x ≠ 0) (he : els ws k = []) (n : Nat) (hn : k < n) (d : Nat) : (els ws n).headD d = 64 * k + Lib.ctz 64 x := by
  obtain ⟨m, rfl⟩ : ∃ m, n = (k + 1) + m := ⟨n - k - 1, by omega⟩
  have h1 : els ws (k + 1) = (64 * k + Lib.ctz 64 x) :: ((bitsW (dropW x (Lib.ctz 64 x))).map (64 * k + ·)) := by
    rw [els_succ, he, hx, bitsW_ctz x h0 hxb]
    rfl
  induction m with
  | zero => rw [Nat.add_zero, h1]; rfl
  | succ m ih =>
    have ih := ih (by omega)
    rw [← Nat.add_assoc, els_succ]
    cases hl : els ws (k + 1 + m) with
    | nil =>
      exfalso
      have hmem : 64 * k + Lib.ctz 64 x ∈ els ws (k + 1) := by rw [h1]; exact List.mem_cons_self
      rw [els_mem] at hmem
      have : 64 * k + Lib.ctz 64 x ∈ els ws (k + 1 + m) := by
        rw [els_mem]
        exact ⟨by omega, hmem.2⟩
      rw [hl] at this
      cases this
    | cons a r =>
      rw [hl] at ih
      exact ih
theorem els_none (ws : List Nat) (k : Nat) (hx : ws.getD k 0 = 0) (he : els ws k = []) : els ws (k + 1) = [] := by
  rw [els_succ, he, hx, bitsW_zero]
  rfl

theorem min_v (w : World) (U b : Nat) (ws : List Nat) (h : BV w U b ws) (hn : ws.length ≤ 1000) (hT : Tabs w) :
    Calls Tryd.prog 79 #[.pointer (some ⟨b, 0, none⟩)] w fun e w' => e = .returned (.int .i64 ((els ws ws.length).headD 2147483647 : Nat)) ∧ w = w' := by
  obtain ⟨A, c0, h1⟩ := h.row
  have H1 := Lib.hid h1
  obtain ⟨n, hnn⟩ : ∃ n, ws.length = n := ⟨_, rfl⟩
  rw [hnn] at c0 hn ⊢
  have Hnn := Lib.hid hnn
  have HT := Lib.hid hT
  clear h1 h hnn hT
  go_enter Tryd.func79, Tryd.ntmps79
  go_wp2
  go_loopw [10] (fun s10 wr => ∃ k : Nat, k ≤ n ∧ s10 = .int .i64 (k : Int) ∧ Hid (els ws k = []) ∧ wr = w) (fun s10 _ => n - (intOf s10).toNat)
  case atStart => exact ⟨0, Nat.zero_le _, rfl, rfl, rfl⟩
  case round =>
    obtain ⟨k, hk, rfl, he, rfl⟩ := hrel
    by_cases hlt : k < n
    · obtain ⟨d, rfl, x, hx, hxb, c1⟩ := H1.out k (by rw [Hnn.out]; exact hlt)
      by_cases h0 : x = 0
      · subst h0
        have HE := Lib.hid (els_none ws k hx he.out)
        clear hx
        go_wp2
        go_roundw
        case rel => exact ⟨k + 1, by omega, rfl, HE, trivial⟩
        case measure =>
          simp [intOf]
          omega
      · have HE := Lib.hid (els_some ws k x hx hxb h0 he.out n hlt 2147483647)
        have hc := ctz_le x
        clear hx
        go_wp2_with (go_at_call 101; go_fit (ctz_any _ x hxb HT.out); rintro e w' ⟨rfl, rfl⟩)
        go_ret
        exact ⟨retI (by rw [HE.out]; omega), rfl⟩
    · have hkn : k = n := by omega
      subst hkn
      go_wp2
      go_ret
      exact ⟨by rw [he.out]; rfl, rfl⟩
end Go.Proofs.YtiffjbpejlnndaaDoor
