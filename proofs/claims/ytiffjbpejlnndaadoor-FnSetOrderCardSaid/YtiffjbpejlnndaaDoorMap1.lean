/-
  spec.BitsOf: the set of some numbers, without others, as a map. Conditions: at most 2^31 numbers each.
-/
import Derived.Test.YtiffjbpejlnndaaDoorMap0
import Derived.Test.YtiffjbpejlnndaaDoorBit12
namespace Go.Proofs.YtiffjbpejlnndaaDoor
open Go.RowKit Go.Maps

/-- A slice of ints, below block U. -/
def IntsAt (w : World) (U : Nat) (A : Option Addr) (l : List Int) : Prop :=
  0 < l.length → ∃ a, A = some a ∧ a.block < U ∧ ∀ i, i < l.length → w.cell? (a.add i) = some (.int .i64 (l.getD i 0))
theorem IntsAt.below {w w' : World} {U B : Nat} {A : Option Addr} {l : List Int} (h : IntsAt w U A l) (hb : Below B w w') (hU : U ≤ B) : IntsAt w' U A l := fun h0 => by
  obtain ⟨a, e, ha, hc⟩ := h h0
  exact ⟨a, e, ha, fun i hi => (hb.cell (p := a.add i) (by rw [addr_add_block]; exact Nat.lt_of_lt_of_le ha hU)).trans (hc i hi)⟩
theorem IntsAt.nil (w : World) (U : Nat) : IntsAt w U none [] := fun h => absurd h (by decide)
def okB (m : Int) (l : List Int) : Bool := l.all fun z => decide (0 ≤ z) && decide (z ≤ m)
def nats (l : List Int) : List Nat := l.map Int.toNat
theorem okB_at {m : Int} {l : List Int} (h : okB m l = true) {k : Nat} {z : Int} (hz : l[k]? = some z) : 0 ≤ z ∧ z ≤ m := by
  have := List.all_eq_true.1 h z (List.mem_of_getElem? hz)
  simpa using this
theorem okB_false {m : Int} {l : List Int} {k : Nat} {z : Int} (hz : l[k]? = some z) (h : z < 0 ∨ m < z) : okB m l = false := by
  cases hh : okB m l
  · rfl
  · have := okB_at hh hz
    omega
theorem nats_at {l : List Int} {k : Nat} {z : Int} (hz : l[k]? = some z) : (nats l)[k]? = some z.toNat := by simp [nats, hz]
theorem ints_round {w : World} {U : Nat} {A : Option Addr} {l : List Int} {k : Nat} (hl : IntsAt w U A l) (hk : k < l.length) : ∃ z : Int, l[k]? = some z ∧ ∃ a, A = some a ∧ a.block < U ∧ w.cell? (a.add k) = some (.int .i64 z) := by
  obtain ⟨a, e, ha, hc⟩ := hl (by omega)
  refine ⟨l[k], List.getElem?_eq_getElem hk, a, e, ha, ?_⟩
  rw [hc k hk, List.getD_eq_getElem?_getD, List.getElem?_eq_getElem hk]
  rfl
/-- So far every number is in range, and the map is the set. -/
def OfInv (w : World) (g : Nat) (l : List Int) (f : List Nat → Nat → List Nat) (s : List Nat) (n0 k : Nat) (wr : World) : Prop :=
  Below w.heap.size w wr ∧ (∀ i z, i < k → l[i]? = some z → 0 ≤ z ∧ z ≤ 200) ∧ SetAt wr g (n0 + k) (inB (((nats l).take k).foldl f s))
theorem ofInv_all {w : World} {g : Nat} {l : List Int} {f : List Nat → Nat → List Nat} {s : List Nat} {n0 k : Nat} {wr : World} (h : OfInv w g l f s n0 k wr) (hk : k = l.length) : okB 200 l = true ∧ SetAt wr g (n0 + k) (inB ((nats l).foldl f s)) := by
  subst hk
  obtain ⟨_, h2, h3⟩ := h
  constructor
  · unfold okB
    rw [List.all_eq_true]
    intro z hz
    obtain ⟨i, hi⟩ := List.getElem?_of_mem hz
    have hil : i < l.length := by
      rcases Nat.lt_or_ge i l.length with h | h
      · exact h
      · rw [List.getElem?_eq_none h] at hi
        cases hi
    have := h2 i z hil hi
    simpa using this
  · rw [List.take_of_length_le (by simp [nats])] at h3
    exact h3
theorem ofInv_put {w : World} {l : List Int} {s : List Nat} {n0 k v : Nat} {wr w1 : World} {D : DataW Unit} (h : OfInv w w.heap.size l addB s n0 k wr) (_ho : wr.ownsMap Tryd.prog 3 (plainElem Tryd.prog 4) w.heap.size (n0 + k) D) (hD : SetD D (inB (((nats l).take k).foldl addB s)))
    (hz : l[k]? = some (v : Int)) (hv : v ≤ 200) (hown : w1.ownsMap Tryd.prog 3 (plainElem Tryd.prog 4) w.heap.size (n0 + k + 1) (D.put (key v) (.lit (.bool true)))) (hg : wr.grownBy w1 (some w.heap.size)) : OfInv w w.heap.size l addB s n0 (k + 1) w1 := by
  obtain ⟨h1, h2, h3⟩ := h
  refine ⟨h1.grown hg h1.size (fun j hj => by cases hj; exact Nat.le_refl _), fun i z hi hiz => ?_, _, hown, (hD.put v hv).congr fun u => ?_⟩
  · by_cases e : i = k
    · subst e
      rw [hz] at hiz
      cases hiz
      omega
    · exact h2 i z (by omega) hiz
  · have := nats_at hz
    rw [foldl_take addB (nats l) s k _ this, inB_add]
    rfl
theorem ofInv_del {w : World} {l : List Int} {s : List Nat} {n0 k v : Nat} {wr w1 : World} {D : DataW Unit} (h : OfInv w w.heap.size l delB s n0 k wr) (hD : SetD D (inB (((nats l).take k).foldl delB s)))
    (hz : l[k]? = some (v : Int)) (hv : v ≤ 200) (hown : w1.ownsMap Tryd.prog 3 (plainElem Tryd.prog 4) w.heap.size (n0 + k) (D.del (key v))) (hg : wr.mapTurned w1 w.heap.size) : OfInv w w.heap.size l delB s n0 (k + 1) w1 := by
  obtain ⟨h1, h2, h3⟩ := h
  refine ⟨h1.grown hg.grown h1.size (fun j hj => by cases hj; exact Nat.le_refl _), fun i z hi hiz => ?_, _, hown.mono (Nat.le_succ _), (hD.del v hv).congr fun u => ?_⟩
  · by_cases e : i = k
    · subst e
      rw [hz] at hiz
      cases hiz
      omega
    · exact h2 i z (by omega) hiz
  · have := nats_at hz
    rw [foldl_take delB (nats l) s k _ this, inB_del]
    rfl
/-- What BitsOf answers. -/
def OfPost (w : World) (l less : List Int) (e : Ending) (w' : World) : Prop := Below w.heap.size w w' ∧
  ((okB 200 l = true ∧ okB 200 less = true ∧ ∃ g n, e = .returned (.tuple #[.map (some g), .bool true]) ∧ w.heap.size ≤ g ∧ n ≤ l.length + less.length ∧ SetAt w' g n (inB (setW (nats l) (nats less))))
    ∨ ((okB 200 l = false ∨ okB 200 less = false) ∧ e = .returned (.tuple #[.map none, .bool false])))

set_option maxRecDepth 100000 in
theorem bitsOf_any (w : World) (U : Nat) (A1 A2 : Option Addr) (c1 c2 : Nat) (l less : List Int) (h1 : IntsAt w U A1 l) (h2 : IntsAt w U A2 less) (hU : U ≤ w.heap.size) (m1 : l.length ≤ 2147483647) (m2 : less.length ≤ 2147483647) :
    Calls Tryd.prog 13 #[.slice A1 l.length c1, .slice A2 less.length c2] w (OfPost w l less) := by
  have H1 := Lib.hid h1
  have H2 := Lib.hid h2
  obtain ⟨a1, ha1⟩ : ∃ a, l.length = a := ⟨_, rfl⟩
  obtain ⟨a2, ha2⟩ : ∃ a, less.length = a := ⟨_, rfl⟩
  rw [ha1] at m1 ⊢
  rw [ha2] at m2 ⊢
  have Ha1 := Lib.hid ha1
  have Ha2 := Lib.hid ha2
  have hmm := @run_makeMap Tryd.prog
  have HI0 : Hid (OfInv w w.heap.size l addB [] 0 0 (w.alloc (.map #[] 0))) :=
    ⟨(Below.refl _ _).alloc (Nat.le_refl _) _, (fun i z h => absurd h (Nat.not_lt_zero _)), ⟨_, World.ownsMap_made w _ _ _, SetD.empty.congr fun v => by simp [inB]⟩⟩
  clear h1 h2 ha1 ha2
  go_enter Tryd.func13, Tryd.ntmps13
  go_wp2
  go_loopw [14] (fun s14 wr => ∃ k : Nat, k ≤ a1 ∧ s14 = .int .i64 (k : Int) ∧ OfInv w w.heap.size l addB [] 0 k wr) (fun s14 _ => a1 - (intOf s14).toNat)
  case atStart => exact ⟨0, Nat.zero_le _, rfl, HI0⟩
  case round =>
    obtain ⟨k, hk, rfl, hinv⟩ := hrel
    by_cases hlt : k < a1
    · obtain ⟨z, hz, a, rfl, hab, cx⟩ := ints_round (H1.out.below hinv.1 hU) (by rw [Ha1.out]; exact hlt)
      have Hz := Lib.hid hz
      have HI := Lib.hid hinv
      clear hz
      by_cases hz0 : z < 0
      · clear hinv
        go_wp2
        go_ret2
        exact ⟨HI.out.1, .inr ⟨.inl (okB_false Hz.out (.inl hz0)), rfl⟩⟩
      · by_cases hz1 : 200 < z
        · clear hinv
          go_wp2
          go_ret2
          exact ⟨HI.out.1, .inr ⟨.inl (okB_false Hz.out (.inr hz1)), rfl⟩⟩
        · obtain ⟨hb, hr, D, hown, hD⟩ := hinv
          have HO := Lib.hid hown
          have HD := Lib.hid hD
          obtain ⟨v, rfl⟩ := Int.eq_ofNat_of_zero_le (by omega : 0 ≤ z)
          clear hb hr hown hD
          go_wp2_with (at_mapUpdate; refine wpList_mapUpdate_own _ rfl _ _ _ 37 rfl 3 4 law3 Tryd.underlying37 (plainElem Tryd.prog 4) w.heap.size (0 + k) D rfl HO.out (by unfold maxLen; omega) _ _ (key v) rfl rfl (key_of v (by omega)) (.lit (.bool true)) [] (plainElem_bool Tryd.underlying4 true) ?_; intro w1 hown1 hgrow1)
          have HN := Lib.hid (ofInv_put HI.out HO.out HD.out Hz.out (by omega) hown1 hgrow1)
          go_roundw
          case rel => exact ⟨k + 1, by omega, rfl, HN.out⟩
          case measure =>
            simp [intOf]
            omega
    · have hkn : k = a1 := by omega
      subst hkn
      have hall := ofInv_all hinv Ha1.out.symm
      have HI0' : Hid (OfInv w w.heap.size less delB ((nats l).foldl addB []) k 0 wr) := ⟨hinv.1, (fun i z h => absurd h (Nat.not_lt_zero _)), by simpa using hall.2⟩
      have Hok := Lib.hid hall.1
      clear hinv hall
      go_wp2
      go_loopw [29] (fun s29 wr => ∃ k2 : Nat, k2 ≤ a2 ∧ s29 = .int .i64 (k2 : Int) ∧ OfInv w w.heap.size less delB ((nats l).foldl addB []) k k2 wr) (fun s29 _ => a2 - (intOf s29).toNat)
      case atStart => exact ⟨0, Nat.zero_le _, rfl, HI0'⟩
      case round =>
        obtain ⟨k2, hk2, rfl, hinv⟩ := hrel
        by_cases hlt2 : k2 < a2
        · obtain ⟨z, hz, a, rfl, hab, cx⟩ := ints_round (H2.out.below hinv.1 hU) (by rw [Ha2.out]; exact hlt2)
          have Hz := Lib.hid hz
          have HI := Lib.hid hinv
          clear hz
          by_cases hz0 : z < 0
          · clear hinv
            go_wp2
            go_ret2
            exact ⟨HI.out.1, .inr ⟨.inr (okB_false Hz.out (.inl hz0)), rfl⟩⟩
          · by_cases hz1 : 200 < z
            · clear hinv
              go_wp2
              go_ret2
              exact ⟨HI.out.1, .inr ⟨.inr (okB_false Hz.out (.inr hz1)), rfl⟩⟩
            · obtain ⟨hb, hr, D, hown, hD⟩ := hinv
              have HO := Lib.hid hown
              have HD := Lib.hid hD
              obtain ⟨v, rfl⟩ := Int.eq_ofNat_of_zero_le (by omega : 0 ≤ z)
              clear hb hr hown hD
              go_wp2_with (at_delete; refine wpList_delete_own _ rfl _ _ 37 3 rfl 4 law3 Tryd.underlying37 (plainElem Tryd.prog 4) w.heap.size (k + k2) D rfl HO.out _ (key v) rfl (key_of v (by omega)) ?_; intro w1 hown1 hturn1)
              have HN := Lib.hid (ofInv_del HI.out HD.out Hz.out (by omega) hown1 hturn1)
              go_roundw
              case rel => exact ⟨k2 + 1, by omega, rfl, HN.out⟩
              case measure =>
                simp [intOf]
                omega
        · have hkn2 : k2 = a2 := by omega
          subst hkn2
          have hall := ofInv_all hinv Ha2.out.symm
          have HA := Lib.hid (And.intro hinv.1 hall)
          clear hinv hall
          go_wp2
          go_ret2
          exact ⟨HA.out.1, .inl ⟨Hok.out, HA.out.2.1, w.heap.size, k + k2, rfl, Nat.le_refl _, by rw [Ha1.out, Ha2.out]; exact Nat.le_refl _, HA.out.2.2⟩⟩
end Go.Proofs.YtiffjbpejlnndaaDoor
