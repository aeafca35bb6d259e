/-
  Bit sets as lists of words, plainly (no program in it): what is in them behind adding, removing and uniting; how many; the least one. Conditions: words are below 2^64 where a theorem says so.
-/
namespace Go.Proofs.YtiffjbpejlnndaaDoor

/-- A number is in a list of words. -/
def inB (ws : List Nat) (v : Nat) : Bool := (ws.getD (v / 64) 0).testBit (v % 64)
def growB (ws : List Nat) (n : Nat) : List Nat := ws ++ List.replicate (n - ws.length) 0
def addB (ws : List Nat) (v : Nat) : List Nat := (growB ws (v / 64 + 1)).set (v / 64) ((growB ws (v / 64 + 1)).getD (v / 64) 0 ||| 2 ^ (v % 64))
def delB (ws : List Nat) (v : Nat) : List Nat := if v / 64 < ws.length then ws.set (v / 64) (ws.getD (v / 64) 0 &&& (18446744073709551615 - 2 ^ (v % 64))) else ws
def Words (ws : List Nat) : Prop := ∀ x ∈ ws, x < 18446744073709551616

theorem growB_length (ws : List Nat) (n : Nat) : (growB ws n).length = max ws.length n := by simp [growB]; omega
theorem growB_getD (ws : List Nat) (n i : Nat) : (growB ws n).getD i 0 = ws.getD i 0 := by
  unfold growB
  simp only [List.getD_eq_getElem?_getD]
  by_cases h : i < ws.length
  · rw [List.getElem?_append_left h]
  · rw [List.getElem?_append_right (by omega), List.getElem?_eq_none (show ws.length ≤ i by omega)]
    by_cases h2 : i - ws.length < n - ws.length
    · rw [List.getElem?_replicate, if_pos h2]; rfl
    · rw [List.getElem?_eq_none (by simp; omega)]
theorem set_getD (ws : List Nat) (i j x : Nat) (hi : i < ws.length) : (ws.set i x).getD j 0 = if j = i then x else ws.getD j 0 := by
  simp only [List.getD_eq_getElem?_getD, List.getElem?_set]
  by_cases h : i = j
  · subst h; simp [hi]
  · rw [if_neg h, if_neg (fun e => h e.symm)]
theorem Words.getD {ws : List Nat} (h : Words ws) (i : Nat) : ws.getD i 0 < 18446744073709551616 := by
  rw [List.getD_eq_getElem?_getD]
  cases hi : ws[i]? with
  | none => simp
  | some x => exact h x (List.mem_of_getElem? hi)
theorem Words.grow {ws : List Nat} (h : Words ws) (n : Nat) : Words (growB ws n) := by
  intro x hx
  simp only [growB, List.mem_append, List.mem_replicate] at hx
  rcases hx with hx | ⟨_, rfl⟩
  · exact h x hx
  · omega
theorem Words.set_ {ws : List Nat} (h : Words ws) (i : Nat) {x : Nat} (hx : x < 18446744073709551616) : Words (ws.set i x) := by
  intro y hy
  rcases List.mem_or_eq_of_mem_set hy with hy | rfl
  · exact h y hy
  · exact hx
theorem two_pow_lt {k : Nat} (h : k < 64) : 2 ^ k < 18446744073709551616 := by
  have : 2 ^ k < 2 ^ 64 := Nat.pow_lt_pow_right (by omega) h
  simpa using this
theorem or_lt {a b : Nat} (ha : a < 18446744073709551616) (hb : b < 18446744073709551616) : a ||| b < 18446744073709551616 := by
  have := Nat.or_lt_two_pow (n := 64) (x := a) (y := b) (by simpa using ha) (by simpa using hb)
  simpa using this
theorem and_lt {a b : Nat} (ha : a < 18446744073709551616) : a &&& b < 18446744073709551616 := Nat.lt_of_le_of_lt Nat.and_le_left ha
theorem Words.add {ws : List Nat} (h : Words ws) (v : Nat) : Words (addB ws v) := (h.grow _).set_ _ (or_lt ((h.grow _).getD _) (two_pow_lt (Nat.mod_lt _ (by omega))))
theorem Words.del {ws : List Nat} (h : Words ws) (v : Nat) : Words (delB ws v) := by
  unfold delB
  split
  · exact h.set_ _ (and_lt (h.getD _))
  · exact h

theorem idx_eq {u v : Nat} : u = v ↔ u / 64 = v / 64 ∧ u % 64 = v % 64 := by omega

theorem inB_add (ws : List Nat) (v u : Nat) : inB (addB ws v) u = (u == v || inB ws u) := by
  unfold inB addB
  have hlt : v / 64 < (growB ws (v / 64 + 1)).length := by rw [growB_length]; omega
  rw [set_getD _ _ _ _ hlt, growB_getD]
  by_cases h : u / 64 = v / 64
  · rw [if_pos h, Nat.testBit_or, Nat.testBit_two_pow, h, Bool.or_comm]
    congr 1
    rw [Bool.eq_iff_iff, beq_iff_eq, decide_eq_true_iff, idx_eq]
    omega
  · rw [if_neg h, growB_getD]
    have : (u == v) = false := by rw [beq_eq_false_iff_ne]; intro e; exact h (by rw [e])
    rw [this, Bool.false_or]
theorem testBit_not {k n : Nat} (_hk : k < 64) (hn : n < 64) : (18446744073709551615 - 2 ^ k).testBit n = !decide (k = n) := by
  have h : 18446744073709551615 - 2 ^ k = 2 ^ 64 - (2 ^ k + 1) := by omega
  rw [h, Nat.testBit_two_pow_sub_succ (by have := two_pow_lt _hk; simpa using this), Nat.testBit_two_pow]
  simp [hn]
theorem inB_del (ws : List Nat) (v u : Nat) : inB (delB ws v) u = (u != v && inB ws u) := by
  unfold inB delB
  by_cases hl : v / 64 < ws.length
  · rw [if_pos hl, set_getD _ _ _ _ hl]
    by_cases h : u / 64 = v / 64
    · rw [if_pos h, Nat.testBit_and, testBit_not (Nat.mod_lt _ (by omega)) (Nat.mod_lt _ (by omega)), h, Bool.and_comm]
      congr 1
      rw [Bool.eq_iff_iff]
      rw [bne_iff_ne, Bool.not_eq_true', decide_eq_false_iff_not]
      omega
    · rw [if_neg h]
      have : (u != v) = true := by rw [bne_iff_ne]; intro e; exact h (by rw [e])
      rw [this, Bool.true_and]
  · rw [if_neg hl]
    by_cases e : u = v
    · subst e
      have : ws.getD (u / 64) 0 = 0 := by rw [List.getD_eq_getElem?_getD, List.getElem?_eq_none (by omega)]; rfl
      rw [this]
      simp
    · have : (u != v) = true := by rw [bne_iff_ne]; exact e
      rw [this, Bool.true_and]

/-- How many words count: up to the last one that is not 0. -/
def lastB (ws : List Nat) : Nat → Nat
  | 0 => 0
  | i + 1 => if ws.getD i 0 = 0 then lastB ws i else i + 1
def minB (ws : List Nat) : Nat := lastB ws ws.length
theorem lastB_le (ws : List Nat) : ∀ n, lastB ws n ≤ n
  | 0 => Nat.le_refl _
  | i + 1 => by unfold lastB; split; · have := lastB_le ws i; omega
                · omega
theorem minB_le (ws : List Nat) : minB ws ≤ ws.length := lastB_le _ _
theorem lastB_zero (ws : List Nat) : ∀ n j, lastB ws n ≤ j → j < n → ws.getD j 0 = 0
  | 0, j, _, h => by omega
  | i + 1, j, h1, h2 => by
    unfold lastB at h1
    split at h1
    · next h0 =>
      by_cases e : j = i
      · subst e; exact h0
      · exact lastB_zero ws i j h1 (by omega)
    · omega
theorem minB_zero (ws : List Nat) (j : Nat) (h : minB ws ≤ j) : ws.getD j 0 = 0 := by
  by_cases hj : j < ws.length
  · exact lastB_zero ws _ j h hj
  · rw [List.getD_eq_getElem?_getD, List.getElem?_eq_none (by omega)]; rfl

/-- The union, as the program makes it; up to word k. -/
def orUpto (ws vs : List Nat) (k : Nat) : List Nat := (growB ws (max (minB ws) (minB vs))).mapIdx fun i x => if i < k then x ||| vs.getD i 0 else x
def orB (ws vs : List Nat) : List Nat := orUpto ws vs (minB vs)
theorem orUpto_length (ws vs : List Nat) (k : Nat) : (orUpto ws vs k).length = max ws.length (max (minB ws) (minB vs)) := by simp [orUpto, growB_length]
theorem orUpto_getD (ws vs : List Nat) (k i : Nat) (hk : k ≤ minB vs) : (orUpto ws vs k).getD i 0 = if i < k then ws.getD i 0 ||| vs.getD i 0 else ws.getD i 0 := by
  have hl := orUpto_length ws vs k
  by_cases h : i < (orUpto ws vs k).length
  · have hg := growB_getD ws (max (minB ws) (minB vs)) i
    rw [List.getD_eq_getElem?_getD, List.getElem?_eq_getElem h]
    have hg2 : i < (growB ws (max (minB ws) (minB vs))).length := by rw [growB_length, ← hl]; exact h
    rw [List.getD_eq_getElem?_getD, List.getElem?_eq_getElem hg2] at hg
    simp only [Option.getD_some] at hg ⊢
    simp only [orUpto, List.getElem_mapIdx, hg]
  · have : ¬ i < k := by omega
    rw [if_neg this, List.getD_eq_getElem?_getD, List.getElem?_eq_none (by omega), List.getD_eq_getElem?_getD, List.getElem?_eq_none (by omega)]
theorem inB_or (ws vs : List Nat) (u : Nat) : inB (orB ws vs) u = (inB ws u || inB vs u) := by
  unfold inB orB
  rw [orUpto_getD _ _ _ _ (Nat.le_refl _)]
  split
  · rw [Nat.testBit_or]
  · next h => rw [minB_zero vs _ (by omega)]; simp
theorem orUpto_words {ws vs : List Nat} (h : Words ws) (hv : Words vs) (k : Nat) : Words (orUpto ws vs k) := by
  intro x hx
  simp only [orUpto, List.mem_mapIdx] at hx
  obtain ⟨i, hi, rfl⟩ := hx
  have hg := h.grow (max (minB ws) (minB vs)) _ (List.getElem_mem hi)
  split
  · exact or_lt hg (hv.getD _)
  · exact hg
theorem orUpto_set (ws vs : List Nat) (k : Nat) (hk : k < minB vs) : (orUpto ws vs k).set k ((orUpto ws vs k).getD k 0 ||| vs.getD k 0) = orUpto ws vs (k + 1) := by
  have hlen := minB_le vs
  have hl := orUpto_length ws vs k
  have hl' := orUpto_length ws vs (k + 1)
  apply List.ext_getElem
  · simp [orUpto]
  · intro i h1 h2
    have e1 : ((orUpto ws vs k).set k ((orUpto ws vs k).getD k 0 ||| vs.getD k 0)).getD i 0 = (orUpto ws vs (k + 1)).getD i 0 := by
      rw [set_getD _ _ _ _ (by omega), orUpto_getD _ _ _ _ (by omega), orUpto_getD _ _ _ _ (by omega), orUpto_getD _ _ _ _ (by omega)]
      by_cases e : i = k
      · subst e; simp
      · by_cases e2 : i < k
        · rw [if_neg e, if_pos e2, if_pos (by omega)]
        · rw [if_neg e, if_neg e2, if_neg (by omega)]
    generalize (orUpto ws vs k).set k ((orUpto ws vs k).getD k 0 ||| vs.getD k 0) = as at *
    rw [List.getD_eq_getElem?_getD, List.getD_eq_getElem?_getD, List.getElem?_eq_getElem h1, List.getElem?_eq_getElem h2] at e1
    simpa using e1
theorem orUpto_zero (ws vs : List Nat) : orUpto ws vs 0 = growB ws (max (minB ws) (minB vs)) := by
  apply List.ext_getElem <;> simp [orUpto]
end Go.Proofs.YtiffjbpejlnndaaDoor
