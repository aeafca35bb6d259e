/-
  A map as a set is read: the look-up, its length, spec.LeastOf. Conditions: as in Map0.
-/
import Derived.Test.YtiffjbpejlnndaaDoorMap1
namespace Go.Proofs.YtiffjbpejlnndaaDoor
open Go.RowKit Go.Maps

theorem plainBool {P : Program} {e : TypeId} (he : P.underlying e = some .bool) {v : Value} {c : Bool} {ps : List MemPlace} (h : plainElem (H := Unit) P e v = some (.lit (.bool c), ps)) : v = .bool c := by
  unfold plainElem at h
  rw [he] at h
  cases v <;> simp at h
  rw [h.1]
theorem SetD.has_ {D : DataW Unit} {S : Nat → Bool} (h : SetD D S) (v : Nat) : has D (key v) = S v := by
  obtain ⟨_, h2, h3, h4, _⟩ := h
  by_cases hs : v ≤ 200
  · exact h2 v hs
  · rw [h3 v (by omega)]
    cases hk : has D (key v)
    · rfl
    · obtain ⟨u, e, hu⟩ := h4 _ hk
      have : u = v := by
        by_cases e2 : u = v
        · exact e2
        · exact absurd e.symm (key_ne e2)
      omega
theorem SetAt.look {w : World} {g n : Nat} {S : Nat → Bool} (h : SetAt w g n S) (v : Nat) (hv : v ≤ 1000) : (Instr.lookup 37 (.map (some g)) (.int .i64 (v : Int)) false).run Tryd.prog w = .ok (.bool (S v)) w := by
  obtain ⟨D, hown, hD⟩ := h
  obtain ⟨x, ps, hrun, hx⟩ := hown.lookup law3 Tryd.underlying37 (z := .bool false) (by kernel_rfl) (plainElem_bool Tryd.underlying4 false) (key_of v hv)
  rw [hD.at_ (key v), hD.has_ v] at hx
  rw [← plainBool Tryd.underlying4 hx]
  exact hrun
theorem SetAt.len_ {w : World} {g n : Nat} {S : Nat → Bool} (h : SetAt w g n S) (ty : TypeId) : (Builtin.len_ #[37] ty #[.map (some g)]).run Tryd.prog w = .ok (.int .i64 (cnt S : Nat)) w := by
  obtain ⟨D, hown, hD⟩ := h
  rw [hown.len Tryd.underlying37 ty, hD.2.2.2.2.1]

def leastS (S : Nat → Bool) : Nat := ((List.range 201).filter S).headD 0
theorem leastS_at {S : Nat → Bool} {k : Nat} (hk : k ≤ 200) (h : S k = true) (hlo : ∀ j, j < k → S j = false) : leastS S = k := by
  unfold leastS
  rw [filter_least S (fun j => j != k && S j) 201 k (by omega) hlo h fun j => rfl]
  rfl
theorem leastS_none {S : Nat → Bool} (hlo : ∀ j, j ≤ 200 → S j = false) : leastS S = 0 := by
  unfold leastS
  rw [List.filter_eq_nil_iff.2 (fun a ha => by rw [hlo a (by have := List.mem_range.1 ha; omega)]; decide)]
  rfl
set_option maxRecDepth 100000 in
theorem leastOf_any (w : World) (g n : Nat) (S : Nat → Bool) (h : SetAt w g n S) : Calls Tryd.prog 48 #[.map (some g)] w fun e w' => e = .returned (.int .i64 (leastS S : Nat)) ∧ w' = w := by
  have H := Lib.hid h
  clear h
  go_enter Tryd.func48, Tryd.ntmps48
  go_wp2
  go_loopw [3] (fun s3 wr => ∃ k : Nat, k ≤ 201 ∧ s3 = .int .i64 (k : Int) ∧ Hid (∀ j, j < k → S j = false) ∧ wr = w) (fun s3 _ => 201 - (intOf s3).toNat)
  case atStart => exact ⟨0, Nat.zero_le _, rfl, (fun j hj => absurd hj (Nat.not_lt_zero j)), rfl⟩
  case round =>
    obtain ⟨k, hk, rfl, hlo, rfl⟩ := hrel
    by_cases hlt : k ≤ 200
    · have hl := H.out.look k (by omega)
      cases hS : S k
      · rw [hS] at hl
        have HS : Hid (∀ j, j < k + 1 → S j = false) := fun j hj => by
          by_cases e : j = k
          · subst e; exact hS
          · exact hlo.out j (by omega)
        clear hS
        go_wp2
        go_roundw
        case rel => exact ⟨k + 1, by omega, rfl, HS, trivial⟩
        case measure =>
          simp [intOf]
          omega
      · rw [hS] at hl
        have HS := Lib.hid (leastS_at hlt hS hlo.out)
        clear hS
        go_wp2
        go_ret
        exact ⟨retI (by rw [HS.out]), rfl⟩
    · have HS := Lib.hid (leastS_none (S := S) fun j hj => hlo.out j (by omega))
      go_wp2
      go_ret
      exact ⟨retI (by rw [HS.out]; rfl), rfl⟩
end Go.Proofs.YtiffjbpejlnndaaDoor
