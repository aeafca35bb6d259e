/-
  What steps over a list of characters tell, plainly (no program in it); one step of the program tells it. Conditions: a step that the plain function answers.
-/
import Derived.Test.YtiffjbpejlnndaaDoorStr4
namespace Go.Proofs.YtiffjbpejlnndaaDoor
open Go.RowKit

/-- The character at a place, -1 behind the last one. -/
def chAt (l : List Nat) (i : Nat) : Int := match l[i]? with | some r => (r : Int) | none => -1
/-- What a step tells (a number, whether it panicked) and where the stream stands behind it. -/
def doStep (l : List Nat) (i : Nat) (p : Int × Int) : Option (Int × Bool × Nat) :=
  if p = (0, 0) then (if i < l.length then some (0, false, i + 1) else some (0, true, i))
  else if p = (1, 1) then some (chAt l i, false, i)
  else if p = (1, -1) then (match i with | 0 => none | j + 1 => (l[j]?).map fun r : Nat => ((r : Int), false, j + 1))
  else if p.1 = 2 then (if 0 ≤ p.2 ∧ p.2 ≤ l.length then some (0, false, p.2.toNat) else none)
  else if p.1 = 3 then some (0, false, i)
  else if p.1 = 4 then some ((i : Int), false, i)
  else if p.1 = 5 then some ((l.length : Int), false, i)
  else none
/-- What steps tell, up to the first one that panics. -/
def doSteps (l : List Nat) : Nat → List (Int × Int) → Option (List (Int × Bool))
  | _, [] => some []
  | i, p :: ps => match doStep l i p with
    | none => none
    | some (k, true, _) => some [(k, true)]
    | some (k, false, i') => (doSteps l i' ps).map ((k, false) :: ·)

def Small (l : List Nat) : Prop := l.length ≤ 2147483647 ∧ ∀ r ∈ l, r ≤ 2147483647

theorem four_set (w : World) (b : Nat) (u0 u1 u2 u3 : Value) :
    w.grownBy ((((w.setCell ⟨b, 0, none⟩ u0).setCell ⟨b, 1, none⟩ u1).setCell ⟨b, 2, none⟩ u2).setCell ⟨b, 3, none⟩ u3) (some b) := by
  have g0 := only_setCell (p := ⟨b, 0, none⟩) (only_refl w (some b)) (Or.inl rfl) u0
  have g1 := only_setCell (p := ⟨b, 1, none⟩) g0 (Or.inl rfl) u1
  have g2 := only_setCell (p := ⟨b, 2, none⟩) g1 (Or.inl rfl) u2
  exact only_setCell (p := ⟨b, 3, none⟩) g2 (Or.inl rfl) u3
theorem four_blk {w : World} {b : Nat} (h : Blk w b 34 (seenC 0 false)) :
    Blk ((((w.setCell ⟨b, 0, none⟩ (.int .i64 0)).setCell ⟨b, 1, none⟩ (.string ⟨#[]⟩)).setCell ⟨b, 2, none⟩ (.slice none 0 0)).setCell ⟨b, 3, none⟩ (.bool true)) b 34 (seenC 0 true) := by
  have e : ((((seenC 0 false).setIfInBounds 0 (.int .i64 0)).setIfInBounds 1 (.string ⟨#[]⟩)).setIfInBounds 2 (.slice none 0 0)).setIfInBounds 3 (.bool true) = seenC 0 true := by
    simp [seenC]
    rfl
  have hB := (((h.set_ 0 (.int .i64 0)).set_ 1 (.string ⟨#[]⟩)).set_ 2 (.slice none 0 0)).set_ 3 (.bool true)
  rw [e] at hB
  exact hB
theorem catch_panicking (b : Nat) (t : TypeId) (pv : Value) (older : List PanicEntry) (w : World) (h : Blk w b 34 (seenC 0 false)) :
    CallsD Tryd.prog 62 #[.pointer (some ⟨b, 0, none⟩)] (.panicking ({ v := .iface t pv, recovered := false } :: older)) w fun e u' w' =>
      e = .returned (.tuple #[]) ∧ u' = .panicking ({ v := .iface t pv, recovered := true } :: older) ∧ Blk w' b 34 (seenC 0 true) ∧ w.grownBy w' (some b) := by
  have h0 := h.cell 0
  have h1 := h.cell 1
  have h2 := h.cell 2
  have h3 := h.cell 3
  have f0 := h.frozen 0
  have f1 := h.frozen 1
  have f2 := h.frozen 2
  have f3 := h.frozen 3
  simp [seenC] at h0 h1 h2 h3
  refine callsD_of_wpS Tryd.func62 rfl fun c₀ cs hu => ?_
  apply wpS_seq
  apply wpS_region
  simp [wpOpsS, go_sem, recoverD, hu, Tryd.ntmps62, Exit.thenS]
  refine wpS_cond (t := true) (by simp [Act.eval, Array.replicate]) ?_
  simp only [if_true]
  apply wpS_region
  simp [wpOpsS, go_sem, h0, h1, h2, h3, f0, f1, f2, f3, bodyPostS, results, Tryd.results62]
  exact ⟨four_blk h, four_set _ _ _ _ _ _⟩

theorem step_dies (w : World) (s i g n c : Nat) (hS : Strm w s i g n c) (hi : i = n) :
    Calls Tryd.prog 36 #[.pointer (some ⟨s, 0, none⟩), .agg (stepC 0 0)] w (StepPost w s g n c 0 i true) := by
  subst hi
  have hmf : ∀ (fn : Fn) (first cap : Array Value) (w : World), (Instr.makeFunc fn first cap).run Tryd.prog w = .ok (.func fn first cap) w := fun _ _ _ _ => rfl
  have hlt : s < w.heap.size := Blk.lt hS
  unfold stepC
  go_enter_defers Tryd.func36, Tryd.ntmps36
  go_wp2_with (go_at_call 63; refine (consume_dies _ _ i ((hS.alloc _).alloc _).c1 ((hS.alloc _).alloc _).c3).mono ?_; rintro e w' ⟨⟨v, rfl⟩, d, rfl⟩)
  refine leaves_cons (f := 62) (args := #[.pointer (some ⟨w.heap.size + 1, 0, none⟩)]) (by simp) (by simp [go_sem]) ?_
  refine (catch_panicking (w.heap.size + 1) 9 _ [] _ ?_).mono ?_
  · have h := Blk.new (w.alloc (.cells #[.int .u8 0, .int .i64 0, .int .i64 0, .slice none 0 0] 79)) 34 (seenC 0 false)
    rw [show (w.alloc (.cells #[.int .u8 0, .int .i64 0, .int .i64 0, .slice none 0 0] 79)).heap.size = w.heap.size + 1 by simp] at h
    exact h.drewN d
  rintro e u' w'' ⟨rfl, rfl, hB, hG⟩
  have h0 := hB.cell 0
  have h1 := hB.cell 1
  have h2 := hB.cell 2
  have h3 := hB.cell 3
  simp [seenC] at h0 h1 h2 h3
  simp [Leaves, settle, results, Tryd.results36, go_sem, h0, h1, h2, h3]
  refine ⟨rfl, only_high (only_drewN (only_alloc (only_alloc (only_refl _ _) _) _) d) hG (by omega), ?_⟩
  exact Blk.grown ((((hS.alloc _).alloc _)).drewN d) hG (fun e => by injection e; omega)

/-- One step, whichever it is. -/
theorem step_any (l : List Nat) (hl : Small l) (w : World) (s i g c : Nat) (p : Int × Int) (k : Int) (b : Bool) (i' : Nat) (hS : Strm w s i g l.length c) (hR : RuneRow w g l) (hi : i ≤ l.length)
    (h : doStep l i p = some (k, b, i')) :
    Calls Tryd.prog 36 #[.pointer (some ⟨s, 0, none⟩), .agg (stepC p.1 p.2)] w (StepPost w s g l.length c k i' b) ∧ i' ≤ l.length := by
  have hn := hl.1
  have hr : ∀ r ∈ l, (r : Int) ≤ 2147483647 := fun r hm => by have := hl.2 r hm; omega
  obtain ⟨op, a⟩ := p
  unfold doStep at h
  simp only [Prod.mk.injEq] at h
  split at h
  · next e =>
    obtain ⟨rfl, rfl⟩ := e
    split at h
    · next hlt =>
      simp only [Option.some.injEq, Prod.mk.injEq] at h
      obtain ⟨rfl, rfl, rfl⟩ := h
      exact ⟨step_consume w s i g _ c hS hlt (by omega), hlt⟩
    · next hge =>
      simp only [Option.some.injEq, Prod.mk.injEq] at h
      obtain ⟨rfl, rfl, rfl⟩ := h
      exact ⟨step_dies w s i g _ c hS (by omega), hi⟩
  · split at h
    · next e =>
      obtain ⟨rfl, rfl⟩ := e
      simp only [Option.some.injEq, Prod.mk.injEq] at h
      obtain ⟨h, rfl, rfl⟩ := h
      unfold chAt at h
      split at h
      · next r hr' =>
        subst h
        exact ⟨step_la w s i g _ c hS _ (List.getElem?_eq_some_iff.1 hr').1 (by omega) (hR.cell hr') (by omega) (hr r (List.mem_of_getElem? hr')), hi⟩
      · next hr' =>
        subst h
        exact ⟨step_la_end w s i g _ c hS (by have := List.getElem?_eq_none_iff.1 hr'; omega) (by omega), hi⟩
    · split at h
      · next e =>
        obtain ⟨rfl, rfl⟩ := e
        split at h
        · cases h
        · next j =>
          rw [Option.map_eq_some_iff] at h
          obtain ⟨r, hr', h⟩ := h
          simp only [Prod.mk.injEq] at h
          obtain ⟨rfl, rfl, rfl⟩ := h
          exact ⟨step_la_back w s (j + 1) g _ c hS j _ rfl (List.getElem?_eq_some_iff.1 hr').1 (by omega) (hR.cell hr') (by omega) (hr r (List.mem_of_getElem? hr')), hi⟩
      · split at h
        · next e =>
          subst e
          split at h
          · next hb =>
            simp only [Option.some.injEq, Prod.mk.injEq] at h
            obtain ⟨rfl, rfl, rfl⟩ := h
            obtain ⟨m, rfl⟩ := Int.eq_ofNat_of_zero_le hb.1
            exact ⟨step_seek w s i g _ c hS m (by omega), by omega⟩
          · cases h
        · split at h
          · next e =>
            subst e
            simp only [Option.some.injEq, Prod.mk.injEq] at h
            obtain ⟨rfl, rfl, rfl⟩ := h
            exact ⟨step_mark w s i g _ c hS a, hi⟩
          · split at h
            · next e =>
              subst e
              simp only [Option.some.injEq, Prod.mk.injEq] at h
              obtain ⟨rfl, rfl, rfl⟩ := h
              exact ⟨step_index w s i g _ c hS a, hi⟩
            · split at h
              · next e =>
                subst e
                simp only [Option.some.injEq, Prod.mk.injEq] at h
                obtain ⟨rfl, rfl, rfl⟩ := h
                exact ⟨step_size w s i g _ c hS a, hi⟩
              · cases h
end Go.Proofs.YtiffjbpejlnndaaDoor
