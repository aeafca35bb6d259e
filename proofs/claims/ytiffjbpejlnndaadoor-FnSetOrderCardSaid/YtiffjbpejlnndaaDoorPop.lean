/-
  How many bits of a 64-bit word are set: the steps of math/bits.OnesCount64, plainly (no program in it). Conditions: the word is below 2^64.
-/
namespace Go.Proofs.YtiffjbpejlnndaaDoor

/-- The ones among the lowest k bits. -/
def pop : Nat → Nat → Nat
  | 0, _ => 0
  | k + 1, x => x % 2 + pop k (x / 2)
/-- The sum of the lowest k digits to base b. -/
def dsum (b : Nat) : Nat → Nat → Nat
  | 0, _ => 0
  | k + 1, y => y % b + dsum b k (y / b)
/-- The lowest k digits to base b are at most c. -/
def digs (b c : Nat) : Nat → Nat → Prop
  | 0, y => y = 0
  | k + 1, y => y % b ≤ c ∧ digs b c k (y / b)
/-- A mask: k digits c to base b. -/
def mask (b c : Nat) : Nat → Nat
  | 0 => 0
  | k + 1 => b * mask b c k + c

theorem and_split (n a b c d : Nat) (ha : a < 2 ^ n) (hc : c < 2 ^ n) : (2 ^ n * b + a) &&& (2 ^ n * d + c) = 2 ^ n * (b &&& d) + (a &&& c) := by
  apply Nat.eq_of_testBit_eq
  intro i
  rw [Nat.testBit_and, Nat.testBit_two_pow_mul_add _ ha, Nat.testBit_two_pow_mul_add _ hc, Nat.testBit_two_pow_mul_add _ (Nat.lt_of_le_of_lt Nat.and_le_left ha)]
  split
  · rw [Nat.testBit_and]
  · rw [Nat.testBit_and]
theorem and_1 (a : Nat) : a &&& 1 = a % 2 := Nat.and_two_pow_sub_one_eq_mod a 1
theorem and_3 (a : Nat) : a &&& 3 = a % 4 := Nat.and_two_pow_sub_one_eq_mod a 2
theorem and_15 (a : Nat) : a &&& 15 = a % 16 := Nat.and_two_pow_sub_one_eq_mod a 4

def s1 (k x : Nat) : Nat := (x / 2 &&& mask 4 1 k) + (x &&& mask 4 1 k)
def s2 (k x : Nat) : Nat := (x / 4 &&& mask 16 3 k) + (x &&& mask 16 3 k)
def s3 (k x : Nat) : Nat := (x / 16 + x) &&& mask 256 15 k

theorem s1_succ (k x : Nat) : s1 (k + 1) x = 4 * s1 k (x / 4) + (x / 2 % 2 + x % 2) := by
  simp only [s1, show mask 4 1 (k + 1) = 4 * mask 4 1 k + 1 from rfl]
  have h1 : x / 2 &&& (4 * mask 4 1 k + 1) = 4 * (x / 4 / 2 &&& mask 4 1 k) + x / 2 % 2 := by
    have := and_split 2 (x / 2 % 4) (x / 4 / 2) 1 (mask 4 1 k) (by omega) (by omega)
    rw [and_1] at this
    rw [show x / 2 = 2 ^ 2 * (x / 4 / 2) + x / 2 % 4 by omega, show (4 : Nat) * mask 4 1 k + 1 = 2 ^ 2 * mask 4 1 k + 1 by omega, this]
    omega
  have h2 : x &&& (4 * mask 4 1 k + 1) = 4 * (x / 4 &&& mask 4 1 k) + x % 2 := by
    have := and_split 2 (x % 4) (x / 4) 1 (mask 4 1 k) (by omega) (by omega)
    rw [and_1] at this
    have e : x = 2 ^ 2 * (x / 4) + x % 4 := by omega
    have e2 : x &&& (4 * mask 4 1 k + 1) = (2 ^ 2 * (x / 4) + x % 4) &&& (2 ^ 2 * mask 4 1 k + 1) := by rw [← e]
    rw [e2, this]
    omega
  rw [h1, h2]
  omega
theorem s2_succ (k x : Nat) : s2 (k + 1) x = 16 * s2 k (x / 16) + (x / 4 % 4 + x % 4) := by
  simp only [s2, show mask 16 3 (k + 1) = 16 * mask 16 3 k + 3 from rfl]
  have h1 : x / 4 &&& (16 * mask 16 3 k + 3) = 16 * (x / 16 / 4 &&& mask 16 3 k) + x / 4 % 4 := by
    have := and_split 4 (x / 4 % 16) (x / 16 / 4) 3 (mask 16 3 k) (by omega) (by omega)
    rw [and_3] at this
    rw [show x / 4 = 2 ^ 4 * (x / 16 / 4) + x / 4 % 16 by omega, show (16 : Nat) * mask 16 3 k + 3 = 2 ^ 4 * mask 16 3 k + 3 by omega, this]
    omega
  have h2 : x &&& (16 * mask 16 3 k + 3) = 16 * (x / 16 &&& mask 16 3 k) + x % 4 := by
    have := and_split 4 (x % 16) (x / 16) 3 (mask 16 3 k) (by omega) (by omega)
    rw [and_3] at this
    have e : x = 2 ^ 4 * (x / 16) + x % 16 := by omega
    have e2 : x &&& (16 * mask 16 3 k + 3) = (2 ^ 4 * (x / 16) + x % 16) &&& (2 ^ 4 * mask 16 3 k + 3) := by rw [← e]
    rw [e2, this]
    omega
  rw [h1, h2]
  omega
theorem s3_succ (k x : Nat) (h0 : x % 16 ≤ 4) (h1 : x / 16 % 16 ≤ 4) (h2 : x / 256 % 16 ≤ 4) : s3 (k + 1) x = 256 * s3 k (x / 256) + (x / 16 % 16 + x % 16) := by
  simp only [s3, show mask 256 15 (k + 1) = 256 * mask 256 15 k + 15 from rfl]
  have hs := and_split 8 (16 * (x / 256 % 16 + x / 16 % 16) + (x / 16 % 16 + x % 16)) (x / 256 / 16 + x / 256) 15 (mask 256 15 k) (by omega) (by omega)
  rw [and_15] at hs
  rw [show x / 16 + x = 2 ^ 8 * (x / 256 / 16 + x / 256) + (16 * (x / 256 % 16 + x / 16 % 16) + (x / 16 % 16 + x % 16)) by omega, show (256 : Nat) * mask 256 15 k + 15 = 2 ^ 8 * mask 256 15 k + 15 by omega, hs]
  omega

theorem s1_all : ∀ (k x : Nat), x < 4 ^ k → dsum 4 k (s1 k x) = pop (2 * k) x ∧ digs 4 2 k (s1 k x)
  | 0, x, h => by
    have : x = 0 := by simpa using h
    subst this
    exact ⟨rfl, rfl⟩
  | k + 1, x, h => by
    have hq : x / 4 < 4 ^ k := by rw [Nat.pow_succ] at h; omega
    obtain ⟨i1, i2⟩ := s1_all k (x / 4) hq
    rw [s1_succ]
    have hm : (4 * s1 k (x / 4) + (x / 2 % 2 + x % 2)) % 4 = x / 2 % 2 + x % 2 := by omega
    have hd : (4 * s1 k (x / 4) + (x / 2 % 2 + x % 2)) / 4 = s1 k (x / 4) := by omega
    refine ⟨?_, ?_⟩
    · rw [dsum, hm, hd, i1, show 2 * (k + 1) = 2 * k + 1 + 1 by omega, pop, pop, show x / 2 / 2 = x / 4 by omega]
      omega
    · rw [digs, hm, hd]
      exact ⟨by omega, i2⟩
theorem s2_all : ∀ (k x : Nat), digs 4 2 (2 * k) x → dsum 16 k (s2 k x) = dsum 4 (2 * k) x ∧ digs 16 4 k (s2 k x)
  | 0, x, h => by
    have : x = 0 := h
    subst this
    exact ⟨rfl, rfl⟩
  | k + 1, x, h => by
    rw [show 2 * (k + 1) = 2 * k + 1 + 1 by omega, digs, digs, show x / 4 / 4 = x / 16 by omega] at h
    obtain ⟨h0, h1, h2⟩ := h
    obtain ⟨i1, i2⟩ := s2_all k (x / 16) h2
    rw [s2_succ]
    have hm : (16 * s2 k (x / 16) + (x / 4 % 4 + x % 4)) % 16 = x / 4 % 4 + x % 4 := by omega
    have hd : (16 * s2 k (x / 16) + (x / 4 % 4 + x % 4)) / 16 = s2 k (x / 16) := by omega
    refine ⟨?_, ?_⟩
    · rw [dsum, hm, hd, i1, show 2 * (k + 1) = 2 * k + 1 + 1 by omega, dsum, dsum, show x / 4 / 4 = x / 16 by omega]
      omega
    · rw [digs, hm, hd]
      exact ⟨by omega, i2⟩
theorem digs_zero (b c : Nat) : ∀ k, digs b c k 0 → True := fun _ _ => trivial
theorem digs_low {c : Nat} : ∀ {k x : Nat}, digs 16 c k x → x % 16 ≤ c
  | 0, x, h => by
    have : x = 0 := h
    subst this
    omega
  | k + 1, x, h => h.1
theorem s3_all : ∀ (k x : Nat), digs 16 4 (2 * k) x → dsum 256 k (s3 k x) = dsum 16 (2 * k) x ∧ digs 256 8 k (s3 k x)
  | 0, x, h => by
    have : x = 0 := h
    subst this
    exact ⟨rfl, rfl⟩
  | k + 1, x, h => by
    rw [show 2 * (k + 1) = 2 * k + 1 + 1 by omega, digs, digs, show x / 16 / 16 = x / 256 by omega] at h
    obtain ⟨h0, h1, h2⟩ := h
    obtain ⟨i1, i2⟩ := s3_all k (x / 256) h2
    rw [s3_succ k x h0 h1 (digs_low h2)]
    have hm : (256 * s3 k (x / 256) + (x / 16 % 16 + x % 16)) % 256 = x / 16 % 16 + x % 16 := by omega
    have hd : (256 * s3 k (x / 256) + (x / 16 % 16 + x % 16)) / 256 = s3 k (x / 256) := by omega
    refine ⟨?_, ?_⟩
    · rw [dsum, hm, hd, i1, show 2 * (k + 1) = 2 * k + 1 + 1 by omega, dsum, dsum, show x / 16 / 16 = x / 256 by omega]
      omega
    · rw [digs, hm, hd]
      exact ⟨by omega, i2⟩

theorem digs_lt {b c : Nat} (hb : c < b) : ∀ {k x : Nat}, digs b c k x → x < b ^ k
  | 0, x, h => by
    have : x = 0 := h
    subst this
    simp
  | k + 1, x, h => by
    have := digs_lt hb h.2
    rw [Nat.pow_succ]
    exact (Nat.div_lt_iff_lt_mul (by omega)).1 this

theorem digs_top : ∀ (k : Nat) (x : Nat), digs 16 4 (k + 1) x → x < 16 ^ k * 5
  | 0, x, h => by
    simp only [digs] at h
    omega
  | k + 1, x, h => by
    have := digs_top k (x / 16) h.2
    rw [Nat.pow_succ, Nat.mul_assoc, Nat.mul_comm 16 5, ← Nat.mul_assoc]
    exact (Nat.div_lt_iff_lt_mul (by omega)).1 this

theorem mask1 : mask 4 1 32 = 6148914691236517205 := by decide
theorem mask2 : mask 16 3 16 = 3689348814741910323 := by decide
theorem mask3 : mask 256 15 8 = 1085102592571150095 := by decide

theorem div256 {A B r : Nat} (h : A = 256 * B + r) (hr : r < 256) : A / 256 = B := by omega
theorem add256 {a a' b b' r s c c' : Nat} (h : a = 256 * a' + r) (k : b = 256 * b' + s) (hc : a + b = c) (hc' : a' + b' = c') : c = 256 * c' + (r + s) := by omega
theorem le256 {a b r M N : Nat} (h : a = 256 * b + r) (hb : b ≤ M) (hr : r ≤ 8) (hN : 256 * M + 8 ≤ N) : a ≤ N := by omega
theorem mod128 {X s : Nat} (hs : s ≤ 64) : (256 * X + s) % 128 = s := by omega
theorem lt2 {a b A B : Nat} (ha : a ≤ A) (hb : b ≤ B) (h : A + B < 1152921504606846976) : a + b < 1152921504606846976 := by omega
theorem dm (y : Nat) : y = 256 * (y / 256) + y % 256 := by omega
theorem le4 {a b c d : Nat} (ha : a ≤ 8) (hb : b ≤ 8) (hc : c ≤ 8) (hd : d ≤ 8) : a + b + (c + d) ≤ 32 := by omega

/-- The last steps: the eight bytes are added up. -/
theorem fold_bytes (y : Nat) (h : digs 256 8 8 y) :
    let y4 := y + y / 256
    let y5 := y4 + y4 / 65536
    let y6 := y5 + y5 / 4294967296
    y4 < 1152921504606846976 ∧ y5 < 1152921504606846976 ∧ y6 < 1152921504606846976 ∧ y6 % 128 = dsum 256 8 y := by
  simp only [digs] at h
  simp only [dsum]
  obtain ⟨h0, h1, h2, h3, h4, h5, h6, h7, h8⟩ := h
  have a0 := dm y
  have a1 := dm (y / 256)
  have a2 := dm (y / 256 / 256)
  have a3 := dm (y / 256 / 256 / 256)
  have a4 := dm (y / 256 / 256 / 256 / 256)
  have a5 := dm (y / 256 / 256 / 256 / 256 / 256)
  have a6 := dm (y / 256 / 256 / 256 / 256 / 256 / 256)
  have a7 := dm (y / 256 / 256 / 256 / 256 / 256 / 256 / 256)
  rw [h8, Nat.mul_zero, Nat.zero_add] at a7
  rw [← a7] at h7
  rw [← a7]
  clear h8 a7
  generalize y % 256 = f0 at *
  generalize y / 256 = y1 at *
  generalize y1 % 256 = f1 at *
  generalize y1 / 256 = y2 at *
  generalize y2 % 256 = f2 at *
  generalize y2 / 256 = y3 at *
  generalize y3 % 256 = f3 at *
  generalize y3 / 256 = z4 at *
  generalize z4 % 256 = f4 at *
  generalize z4 / 256 = z5 at *
  generalize z5 % 256 = f5 at *
  generalize z5 / 256 = z6 at *
  generalize z6 % 256 = f6 at *
  generalize z6 / 256 = z7 at *
  have b6 := le256 a6 h7 h6 (Nat.le_refl _)
  have b5 := le256 a5 b6 h5 (Nat.le_refl _)
  have b4 := le256 a4 b5 h4 (Nat.le_refl _)
  have b3 := le256 a3 b4 h3 (Nat.le_refl _)
  have b2 := le256 a2 b3 h2 (Nat.le_refl _)
  have b1 := le256 a1 b2 h1 (Nat.le_refl _)
  have b0 := le256 a0 b1 h0 (Nat.le_refl _)
  obtain ⟨A0, hA0⟩ : ∃ a, y + y1 = a := ⟨_, rfl⟩
  obtain ⟨A1, hA1⟩ : ∃ a, y1 + y2 = a := ⟨_, rfl⟩
  obtain ⟨A2, hA2⟩ : ∃ a, y2 + y3 = a := ⟨_, rfl⟩
  obtain ⟨A3, hA3⟩ : ∃ a, y3 + z4 = a := ⟨_, rfl⟩
  obtain ⟨A4, hA4⟩ : ∃ a, z4 + z5 = a := ⟨_, rfl⟩
  obtain ⟨A5, hA5⟩ : ∃ a, z5 + z6 = a := ⟨_, rfl⟩
  obtain ⟨A6, hA6⟩ : ∃ a, z6 + z7 = a := ⟨_, rfl⟩
  have g0 := add256 a0 a1 hA0 hA1
  have g1 := add256 a1 a2 hA1 hA2
  have g2 := add256 a2 a3 hA2 hA3
  have g3 := add256 a3 a4 hA3 hA4
  have g4 := add256 a4 a5 hA4 hA5
  have g5 := add256 a5 a6 hA5 hA6
  have g6 : A6 = 256 * z7 + (f6 + z7) := by rw [← hA6, a6]; exact Nat.add_assoc _ _ _
  have c0 : A0 ≤ 578721382704613384 + 2260630401189896 := by rw [← hA0]; exact Nat.add_le_add b0 b1
  have c2 : A2 ≤ 8830587504648 + 34494482440 := by rw [← hA2]; exact Nat.add_le_add b2 b3
  have c4 : A4 ≤ 134744072 + 526344 := by rw [← hA4]; exact Nat.add_le_add b4 b5
  have c6 : A6 ≤ 2056 + 8 := by rw [← hA6]; exact Nat.add_le_add b6 h7
  rw [hA0]
  clear hA0 hA1 hA2 hA3 hA4 hA5 hA6 a0 a1 a2 a3 a4 a5 a6 b0 b1 b2 b3 b4 b5 b6
  have r4 : A0 / 65536 = A2 := by
    rw [show 65536 = 256 * 256 from rfl, ← Nat.div_div_eq_div_mul, div256 g0 (by omega), div256 g1 (by omega)]
  rw [r4]
  clear r4
  obtain ⟨B0, hB0⟩ : ∃ a, A0 + A2 = a := ⟨_, rfl⟩
  obtain ⟨B1, hB1⟩ : ∃ a, A1 + A3 = a := ⟨_, rfl⟩
  obtain ⟨B2, hB2⟩ : ∃ a, A2 + A4 = a := ⟨_, rfl⟩
  obtain ⟨B3, hB3⟩ : ∃ a, A3 + A5 = a := ⟨_, rfl⟩
  obtain ⟨B4, hB4⟩ : ∃ a, A4 + A6 = a := ⟨_, rfl⟩
  obtain ⟨B5, hB5⟩ : ∃ a, A5 + z7 = a := ⟨_, rfl⟩
  have k0 := add256 g0 g2 hB0 hB1
  have k1 := add256 g1 g3 hB1 hB2
  have k2 := add256 g2 g4 hB2 hB3
  have k3 := add256 g3 g5 hB3 hB4
  have k4 := add256 g4 g6 hB4 hB5
  have l0 : B0 ≤ 578721382704613384 + 2260630401189896 + (8830587504648 + 34494482440) := by rw [← hB0]; exact Nat.add_le_add c0 c2
  have l4 : B4 ≤ 134744072 + 526344 + (2056 + 8) := by rw [← hB4]; exact Nat.add_le_add c4 c6
  rw [hB0]
  have hA0' : A0 < 1152921504606846976 := Nat.lt_of_le_of_lt c0 (by decide)
  have hB0' : B0 < 1152921504606846976 := Nat.lt_of_le_of_lt l0 (by decide)
  clear hB0 hB1 hB2 hB3 hB4 hB5 g0 g1 g2 g3 g4 g5 g6 c0 c2 c4 c6
  have m0 := le4 h0 h1 h2 h3
  have m1 := le4 h1 h2 h3 h4
  have m2 := le4 h2 h3 h4 h5
  have m3 := le4 h3 h4 h5 h6
  have m4 := le4 h4 h5 h6 h7
  clear h0 h1 h2 h3 h4 h5 h6 h7
  have r5 : B0 / 4294967296 = B4 := by
    rw [show 4294967296 = 256 * 256 * 256 * 256 from rfl, ← Nat.div_div_eq_div_mul, ← Nat.div_div_eq_div_mul, ← Nat.div_div_eq_div_mul, div256 k0 (by omega), div256 k1 (by omega), div256 k2 (by omega), div256 k3 (by omega)]
  rw [r5]
  have hs := add256 k0 k4 rfl rfl
  refine ⟨hA0', hB0', Nat.lt_of_le_of_lt (Nat.add_le_add l0 l4) (by decide), ?_⟩
  rw [hs, mod128 (by omega)]
  simp only [Nat.add_assoc, Nat.add_zero]
/-- OnesCount64's steps at a word below 2^64. -/
theorem steps_pop (x : Nat) (hx : x < 18446744073709551616) :
    ∃ y1 y2 y3 : Nat, (x / 2 &&& 6148914691236517205) + (x &&& 6148914691236517205) = y1 ∧ y1 < 18446744073709551616 ∧
      (y1 / 4 &&& 3689348814741910323) + (y1 &&& 3689348814741910323) = y2 ∧ y2 < 1152921504606846976 * 5 ∧ (y2 / 16 + y2) &&& 1085102592571150095 = y3 ∧ y3 < 18446744073709551616 ∧
      y3 + y3 / 256 < 1152921504606846976 ∧ y3 + y3 / 256 + (y3 + y3 / 256) / 65536 < 1152921504606846976 ∧
      y3 + y3 / 256 + (y3 + y3 / 256) / 65536 + (y3 + y3 / 256 + (y3 + y3 / 256) / 65536) / 4294967296 < 1152921504606846976 ∧
      (y3 + y3 / 256 + (y3 + y3 / 256) / 65536 + (y3 + y3 / 256 + (y3 + y3 / 256) / 65536) / 4294967296) % 128 = pop 64 x := by
  obtain ⟨a1, a2⟩ := s1_all 32 x (by simpa using hx)
  obtain ⟨b1, b2⟩ := s2_all 16 _ a2
  obtain ⟨c1, c2⟩ := s3_all 8 _ b2
  have f := fold_bytes _ c2
  simp only at f
  obtain ⟨f1, f2, f3, f4⟩ := f
  have d1 := digs_lt (by omega) a2
  have d3 := digs_lt (by omega) c2
  have e2 := digs_top 15 _ b2
  simp only [s1, s2, s3, mask1, mask2, mask3] at *
  exact ⟨_, _, _, rfl, by simpa using d1, rfl, e2, rfl, by simpa using d3, f1, f2, f3, by rw [f4, c1, b1, a1]⟩
end Go.Proofs.YtiffjbpejlnndaaDoor
