/-
  The numbers in a list of words, ascending (plain): how many, the least, word by word, bit by bit. Conditions: words are below 2^64 where a theorem says so.
-/
import Derived.Test.YtiffjbpejlnndaaDoorBit0
import Derived.Test.YtiffjbpejlnndaaDoorPop
import Derived.Lib.TrailingZeros
namespace Go.Proofs.YtiffjbpejlnndaaDoor

/-- The bits of a word, ascending. -/
def bitsW (x : Nat) : List Nat := (List.range 64).filter x.testBit
/-- The numbers in the first n words, ascending. -/
def els (ws : List Nat) (n : Nat) : List Nat := (List.range (64 * n)).filter (inB ws)

theorem els_succ (ws : List Nat) (k : Nat) : els ws (k + 1) = els ws k ++ (bitsW (ws.getD k 0)).map (64 * k + ·) := by
  unfold els bitsW
  rw [show 64 * (k + 1) = 64 * k + 64 by omega, List.range_add, List.filter_append, List.filter_map]
  congr 2
  apply List.filter_congr
  intro j hj
  have hj := List.mem_range.1 hj
  show inB ws (64 * k + j) = _
  unfold inB
  rw [show (64 * k + j) / 64 = k by omega, show (64 * k + j) % 64 = j by omega]
theorem els_past (ws : List Nat) (k n : Nat) (hk : ws.length ≤ k) (hn : k ≤ n) : els ws n = els ws k := by
  induction n with
  | zero => obtain rfl : k = 0 := by omega
            rfl
  | succ n ih =>
    by_cases h : k = n + 1
    · rw [h]
    · rw [els_succ, ih (by omega)]
      have : ws.getD n 0 = 0 := by rw [List.getD_eq_getElem?_getD, List.getElem?_eq_none (by omega)]; rfl
      rw [this]
      simp [bitsW]
theorem els_mem (ws : List Nat) (n v : Nat) : v ∈ els ws n ↔ v < 64 * n ∧ inB ws v = true := by simp [els]
/-- The same numbers, the same list. -/
theorem els_eq {ws : List Nat} {n m : Nat} (S : Nat → Bool) (hm : m ≤ 64 * n) (h : ∀ v, v < m → inB ws v = S v) (h2 : ∀ v, m ≤ v → inB ws v = false) : els ws n = (List.range m).filter S := by
  unfold els
  obtain ⟨d, hd⟩ : ∃ d, 64 * n = m + d := ⟨64 * n - m, by omega⟩
  rw [hd, List.range_add, List.filter_append]
  have e1 : ((List.range d).map (m + ·)).filter (inB ws) = [] := by
    rw [List.filter_eq_nil_iff]
    intro a ha
    simp only [List.mem_map, List.mem_range] at ha
    obtain ⟨j, _, rfl⟩ := ha
    rw [h2 _ (by omega)]
    decide
  rw [e1, List.append_nil]
  apply List.filter_congr
  intro v hv
  exact h v (List.mem_range.1 hv)

theorem pop_filter : ∀ (n x : Nat), ((List.range n).filter x.testBit).length = pop n x
  | 0, _ => rfl
  | n + 1, x => by
    have ih := pop_filter n (x / 2)
    unfold pop
    rw [← ih, List.range_succ_eq_map, List.filter_cons, List.filter_map, Nat.testBit_zero]
    have e : x.testBit ∘ Nat.succ = (x / 2).testBit := by
      funext j
      show x.testBit (j + 1) = _
      rw [Nat.testBit_succ]
    rw [e]
    by_cases h : x % 2 = 1
    · simp [h]
      omega
    · have h0 : x % 2 = 0 := by omega
      simp [h0]
theorem bitsW_length (x : Nat) : (bitsW x).length = pop 64 x := pop_filter 64 x
theorem bitsW_zero : bitsW 0 = [] := by simp [bitsW]

/-- The least bit first, the others behind it. -/
theorem filter_least (p q : Nat → Bool) (n i : Nat) (hi : i < n) (hlo : ∀ j, j < i → p j = false) (hpi : p i = true) (hq : ∀ j, q j = (j != i && p j)) :
    (List.range n).filter p = i :: (List.range n).filter q := by
  obtain ⟨d, rfl⟩ : ∃ d, n = i + (1 + d) := ⟨n - i - 1, by omega⟩
  have z1 : (List.range i).filter p = [] := by
    rw [List.filter_eq_nil_iff]
    intro a ha
    rw [hlo a (List.mem_range.1 ha)]
    decide
  have z2 : (List.range i).filter q = [] := by
    rw [List.filter_eq_nil_iff]
    intro a ha
    rw [hq, hlo a (List.mem_range.1 ha), Bool.and_false]
    decide
  rw [List.range_add, List.filter_append, List.filter_append, z1, z2, List.nil_append, List.nil_append, List.range_add]
  simp only [List.range_one, List.map_append, List.map_cons, List.map_nil, List.filter_append, Nat.add_zero]
  have f1 : [i].filter p = [i] := by simp [hpi]
  have f2 : [i].filter q = [] := by simp [hq]
  rw [f1, f2]
  simp only [List.cons_append, List.nil_append]
  congr 1
  apply List.filter_congr
  intro v hv
  simp only [List.mem_map, List.mem_range] at hv
  obtain ⟨j, ⟨k, _, rfl⟩, rfl⟩ := hv
  rw [hq]
  have : (i + (1 + k) != i) = true := by rw [bne_iff_ne]; omega
  rw [this, Bool.true_and]

/-- The least bit cleared. -/
def dropW (x i : Nat) : Nat := x &&& (18446744073709551615 - 2 ^ i)
theorem bitsW_ctz (x : Nat) (h0 : x ≠ 0) (hx : x < 18446744073709551616) : bitsW x = Lib.ctz 64 x :: bitsW (dropW x (Lib.ctz 64 x)) := by
  have hpos : 0 < x := by omega
  obtain ⟨m, hm, hk⟩ := Lib.ctzFrom_spec 64 x hpos (by omega)
  have hc : Lib.ctz 64 x = Lib.ctzFrom 64 x := by unfold Lib.ctz; rw [if_neg h0]
  rw [hc]
  obtain ⟨c, hcc⟩ : ∃ c, Lib.ctzFrom 64 x = c := ⟨_, rfl⟩
  rw [hcc] at hm hk ⊢
  have ht : ∀ j, x.testBit j = (decide (c ≤ j) && (2 * m + 1).testBit (j - c)) := by
    intro j
    rw [hm, Nat.testBit_two_pow_mul]
  have hlo : ∀ j, j < c → x.testBit j = false := by
    intro j hj
    rw [ht, decide_eq_false (by omega), Bool.false_and]
  have hci : x.testBit c = true := by
    rw [ht, Nat.sub_self, Nat.testBit_zero, decide_eq_true (Nat.le_refl c)]
    simp
  unfold bitsW
  have e : (List.range 64).filter (dropW x c).testBit = (List.range 64).filter (fun j => j != c && x.testBit j) := by
    apply List.filter_congr
    intro j hj
    have hj := List.mem_range.1 hj
    unfold dropW
    rw [Nat.testBit_and, testBit_not hk hj, Bool.and_comm]
    congr 1
    rw [Bool.eq_iff_iff, bne_iff_ne, Bool.not_eq_true', decide_eq_false_iff_not]
    omega
  rw [e]
  exact filter_least _ _ 64 c hk hlo hci fun j => rfl
theorem dropW_lt (x : Nat) (h0 : x ≠ 0) (hx : x < 18446744073709551616) : dropW x (Lib.ctz 64 x) < x := by
  have hle : dropW x (Lib.ctz 64 x) ≤ x := Nat.and_le_left
  rcases Nat.lt_or_ge (dropW x (Lib.ctz 64 x)) x with h | h
  · exact h
  · have he : dropW x (Lib.ctz 64 x) = x := by omega
    have hb := congrArg List.length (bitsW_ctz x h0 hx)
    rw [he] at hb
    simp at hb

theorem sum_els (ws : List Nat) : ∀ n, n ≤ ws.length → ((ws.take n).map (pop 64)).sum = (els ws n).length
  | 0, _ => by simp [els]
  | n + 1, h => by
    have ih := sum_els ws n (by omega)
    rw [els_succ, List.length_append, List.length_map, bitsW_length, ← ih, List.take_add_one, List.getD_eq_getElem?_getD, List.getElem?_eq_getElem (by omega), List.map_append, List.sum_append]
    simp
end Go.Proofs.YtiffjbpejlnndaaDoor
