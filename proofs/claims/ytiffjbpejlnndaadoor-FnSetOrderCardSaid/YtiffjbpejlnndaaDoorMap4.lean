/-
  laws.bitAsk; slices.Equal of two rows that are alike. Conditions: at most 2^31 numbers.
-/
import Derived.Test.YtiffjbpejlnndaaDoorMap3
namespace Go.Proofs.YtiffjbpejlnndaaDoor
open Go.RowKit Go.Maps

theorem okB_true {m : Int} {l : List Int} (h : ∀ (i : Nat) (z : Int), i < l.length → l[i]? = some z → 0 ≤ z ∧ z ≤ m) : okB m l = true := by
  unfold okB
  rw [List.all_eq_true]
  intro z hz
  obtain ⟨i, hi⟩ := List.getElem?_of_mem hz
  have hil : i < l.length := by
    rcases Nat.lt_or_ge i l.length with h | h
    · exact h
    · rw [List.getElem?_eq_none h] at hi
      cases hi
  have := h i z hil hi
  simpa using this
theorem bitAsk_any (w : World) (U : Nat) (A : Option Addr) (c : Nat) (l : List Int) (h : IntsAt w U A l) (m1 : l.length ≤ 2147483647) :
    Calls Tryd.prog 14 #[.slice A l.length c] w fun e w' => e = .returned (.bool (okB 300 l && decide (l.length ≤ 100))) ∧ w' = w := by
  have H := Lib.hid h
  obtain ⟨n, hn⟩ : ∃ n, l.length = n := ⟨_, rfl⟩
  rw [hn] at m1 ⊢
  have Hn := Lib.hid hn
  clear h hn
  go_enter Tryd.func14, Tryd.ntmps14
  go_wp2
  go_loopw [7] (fun s7 wr => ∃ k : Nat, k ≤ n ∧ s7 = .int .i64 (k : Int) ∧ Hid (∀ (i : Nat) (z : Int), i < k → l[i]? = some z → 0 ≤ z ∧ z ≤ 300) ∧ wr = w) (fun s7 _ => n - (intOf s7).toNat)
  case atStart => exact ⟨0, Nat.zero_le _, rfl, (fun i z hi => absurd hi (Nat.not_lt_zero i)), rfl⟩
  case round =>
    obtain ⟨k, hk, rfl, hlo, rfl⟩ := hrel
    by_cases hlt : k < n
    · obtain ⟨z, hz, a, rfl, hab, cx⟩ := ints_round H.out (by rw [Hn.out]; exact hlt)
      have Hz := Lib.hid hz
      clear hz
      by_cases hz0 : z < 0
      · go_wp2
        go_ret
        exact ⟨by rw [okB_false Hz.out (.inl hz0)]; rfl, rfl⟩
      · by_cases hz1 : 300 < z
        · go_wp2
          go_ret
          exact ⟨by rw [okB_false Hz.out (.inr hz1)]; rfl, rfl⟩
        · have HS : Hid (∀ (i : Nat) (z : Int), i < k + 1 → l[i]? = some z → 0 ≤ z ∧ z ≤ 300) := fun i z' hi hiz => by
            by_cases e : i = k
            · subst e
              rw [Hz.out] at hiz
              cases hiz
              omega
            · exact hlo.out i z' (by omega) hiz
          go_wp2
          go_roundw
          case rel => exact ⟨k + 1, by omega, rfl, HS, trivial⟩
          case measure =>
            simp [intOf]
            omega
    · have hkn : k = n := by omega
      subst hkn
      have hok := okB_true (m := 300) fun i z hi hz => hlo.out i z (by rw [← Hn.out]; exact hi) hz
      have Hok := Lib.hid hok
      clear hok
      go_wp2
      go_ret
      refine ⟨?_, rfl⟩
      rw [Hok.out, Bool.true_and]
      show Ending.returned (.bool (decide ((k : Int) ≤ 100))) = _
      congr 2
      rw [Bool.eq_iff_iff, decide_eq_true_iff, decide_eq_true_iff]
      omega

/-- A row of values as it is read. -/
def RowV (w : World) (A : Option Addr) (xs : List Value) : Prop := ∀ (k : Nat) u, xs[k]? = some u → ∃ g, A = some ⟨g, 0, none⟩ ∧ w.cell? ⟨g, k, none⟩ = some u
theorem RowV.below {w w' : World} {A : Option Addr} {xs : List Value} (h : RowV w A xs) (hb : Below w.heap.size w w') : RowV w' A xs := fun k u hk => by
  obtain ⟨g, e, hc⟩ := h k u hk
  exact ⟨g, e, (hb.cell (World.block_lt_of_cell? w _ hc)).trans hc⟩
theorem RowV.of_own {w : World} {base : Nat} {A : Option Addr} {n c : Nat} {xs : List Value} (h : w.ownsRow base 4 1 (.slice A n c) n xs) : RowV w A xs := fun _ _ hk => own_at h hk
theorem RowV.of_blk {w : World} {g : Nat} {t : TypeId} {xs : List Value} (h : Blk w g t xs.toArray) : RowV w (some ⟨g, 0, none⟩) xs := fun k u hk => ⟨g, rfl, (h.cell k).trans (by simpa using hk)⟩
set_option maxRecDepth 100000 in
theorem equal_yes (w : World) (A1 A2 : Option Addr) (c1 c2 : Nat) (bs : List Bool) (h1 : RowV w A1 (bs.map Value.bool)) (h2 : RowV w A2 (bs.map Value.bool)) (hb : bs.length ≤ 1000) :
    Calls Tryd.prog 32 #[.slice A1 bs.length c1, .slice A2 bs.length c2] w (Saw w (.bool true)) := by
  have H1 := Lib.hid h1
  have H2 := Lib.hid h2
  obtain ⟨n, hn⟩ : ∃ n, bs.length = n := ⟨_, rfl⟩
  rw [hn] at hb ⊢
  have Hn := Lib.hid hn
  clear h1 h2 hn
  go_enter Tryd.func32, Tryd.ntmps32
  go_wp2
  go_loopw [13] (fun s13 wr => ∃ k : Nat, k ≤ n ∧ s13 = .int .i64 (k : Int) ∧ Below w.heap.size w wr) (fun s13 _ => n - (intOf s13).toNat)
  case atStart => exact ⟨0, Nat.zero_le _, rfl, Below.refl _ _⟩
  case round =>
    obtain ⟨k, hk, rfl, hb2⟩ := hrel
    by_cases hlt : k < n
    · obtain ⟨x, hx⟩ : ∃ x, bs[k]? = some x := ⟨bs[k]'(by rw [Hn.out]; exact hlt), List.getElem?_eq_getElem _⟩
      obtain ⟨g1, rfl, d1⟩ := H1.out.below hb2 k (.bool x) (by simp [hx])
      obtain ⟨g2, rfl, d2⟩ := H2.out.below hb2 k (.bool x) (by simp [hx])
      have HB := Lib.hid hb2
      clear hb2 hx
      go_upto_region 6 with fail
      go_quiet (fail)
      go_wp2
      go_roundw
      case rel => exact ⟨k + 1, by omega, rfl, below_drewN HB.out _⟩
      case measure =>
        simp [intOf]
        omega
    · have HB := Lib.hid hb2
      clear hb2
      go_wp2
      go_ret
      exact ⟨rfl, HB.out⟩
end Go.Proofs.YtiffjbpejlnndaaDoor
