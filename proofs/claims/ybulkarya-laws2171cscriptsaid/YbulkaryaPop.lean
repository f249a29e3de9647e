/-
  The count of a word's bits, by the well-known halvings: digits by a function, Horner's form.
-/
namespace Go.Proofs.Ybulkarya.script
set_option linter.unusedVariables false
set_option linter.unusedSimpArgs false

/-- The number whose digits, the lowest first, are d 0 .. d (n - 1). -/
def hor (B : Nat) (d : Nat → Nat) : Nat → Nat
  | 0 => 0
  | n + 1 => d 0 + B * hor B (fun i => d (i + 1)) n

theorem hor_congr (B : Nat) : ∀ (n : Nat) (d e : Nat → Nat), (∀ i, i < n → d i = e i) → hor B d n = hor B e n
  | 0, _, _, _ => rfl
  | n + 1, d, e, h => by
    show d 0 + B * hor B (fun i => d (i + 1)) n = e 0 + B * hor B (fun i => e (i + 1)) n
    rw [h 0 (by omega), hor_congr B n (fun i => d (i + 1)) (fun i => e (i + 1)) (fun i hi => h (i + 1) (by omega))]

theorem hor_add (B : Nat) : ∀ (n : Nat) (d e : Nat → Nat), hor B d n + hor B e n = hor B (fun i => d i + e i) n
  | 0, _, _ => rfl
  | n + 1, d, e => by
    show (d 0 + B * hor B (fun i => d (i + 1)) n) + (e 0 + B * hor B (fun i => e (i + 1)) n) = (d 0 + e 0) + B * hor B (fun i => d (i + 1) + e (i + 1)) n
    rw [← hor_add B n (fun i => d (i + 1)) (fun i => e (i + 1)), Nat.mul_add]
    omega

/-- One more digit at the top, a zero, is nothing. -/
theorem hor_top (B : Nat) : ∀ (n : Nat) (d : Nat → Nat), d n = 0 → hor B d (n + 1) = hor B d n
  | 0, d, h => by simp [hor, h]
  | n + 1, d, h => by
    show d 0 + B * hor B (fun i => d (i + 1)) (n + 1) = d 0 + B * hor B (fun i => d (i + 1)) n
    rw [hor_top B n (fun i => d (i + 1)) h]

theorem hor_div (B n : Nat) (d : Nat → Nat) (h0 : d 0 < B) (hn : d n = 0) : hor B d n / B = hor B (fun i => d (i + 1)) n := by
  rw [← hor_top B n d hn]
  show (d 0 + B * hor B (fun i => d (i + 1)) n) / B = _
  have hB : 0 < B := by omega
  rw [Nat.add_mul_div_left _ _ hB, Nat.div_eq_of_lt h0, Nat.zero_add]

theorem hor_pair (B : Nat) : ∀ (n : Nat) (d : Nat → Nat), hor B d (2 * n) = hor (B * B) (fun i => d (2 * i) + B * d (2 * i + 1)) n
  | 0, _ => rfl
  | n + 1, d => by
    have e : 2 * (n + 1) = 2 * n + 1 + 1 := by omega
    rw [e]
    show d 0 + B * (d 1 + B * hor B (fun i => d (i + 1 + 1)) (2 * n)) = (d 0 + B * d 1) + B * B * hor (B * B) (fun i => d (2 * (i + 1)) + B * d (2 * (i + 1) + 1)) n
    rw [hor_pair B n (fun i => d (i + 1 + 1)), Nat.mul_add, Nat.mul_assoc, Nat.add_assoc]
    rfl

theorem and_split (k a b c d : Nat) (ha : a < 2 ^ k) (hc : c < 2 ^ k) : (a + 2 ^ k * b) &&& (c + 2 ^ k * d) = (a &&& c) + 2 ^ k * (b &&& d) := by
  have h1 := Nat.div_add_mod ((a + 2 ^ k * b) &&& (c + 2 ^ k * d)) (2 ^ k)
  rw [Nat.and_div_two_pow, Nat.and_mod_two_pow] at h1
  have p : 0 < 2 ^ k := Nat.two_pow_pos k
  rw [Nat.add_mul_div_left _ _ p, Nat.add_mul_div_left _ _ p, Nat.div_eq_of_lt ha, Nat.div_eq_of_lt hc, Nat.add_mul_mod_self_left, Nat.add_mul_mod_self_left, Nat.mod_eq_of_lt ha, Nat.mod_eq_of_lt hc, Nat.zero_add, Nat.zero_add] at h1
  omega

theorem hor_and (k : Nat) : ∀ (n : Nat) (d e : Nat → Nat), (∀ i, i < n → d i < 2 ^ k) → (∀ i, i < n → e i < 2 ^ k) → hor (2 ^ k) d n &&& hor (2 ^ k) e n = hor (2 ^ k) (fun i => d i &&& e i) n
  | 0, _, _, _, _ => by simp [hor]
  | n + 1, d, e, hd, he => by
    show (d 0 + 2 ^ k * hor (2 ^ k) (fun i => d (i + 1)) n) &&& (e 0 + 2 ^ k * hor (2 ^ k) (fun i => e (i + 1)) n) = (d 0 &&& e 0) + 2 ^ k * hor (2 ^ k) (fun i => d (i + 1) &&& e (i + 1)) n
    rw [and_split k _ _ _ _ (hd 0 (by omega)) (he 0 (by omega)), hor_and k n (fun i => d (i + 1)) (fun i => e (i + 1)) (fun i hi => hd (i + 1) (by omega)) (fun i hi => he (i + 1) (by omega))]

theorem low (k p q : Nat) (hp : p < 2 ^ k) : (p + 2 ^ k * q) &&& (2 ^ k - 1) = p := by
  rw [Nat.and_two_pow_sub_one_eq_mod, Nat.add_mul_mod_self_left, Nat.mod_eq_of_lt hp]

/-- Every other digit, kept. -/
theorem hor_even (k n : Nat) (d : Nat → Nat) (hd : ∀ i, d i < 2 ^ k) : hor (2 ^ k) d (2 * n) &&& hor (2 ^ k * 2 ^ k) (fun _ => 2 ^ k - 1) n = hor (2 ^ k * 2 ^ k) (fun i => d (2 * i)) n := by
  have p : 0 < 2 ^ k := Nat.two_pow_pos k
  have e : 2 ^ k * 2 ^ k = 2 ^ (k + k) := (Nat.pow_add 2 k k).symm
  rw [hor_pair, e, hor_and (k + k) n _ _ (fun i _ => ?_) (fun i _ => ?_)]
  · exact hor_congr _ _ _ _ (fun i _ => low k _ _ (hd (2 * i)))
  · have h1 := hd (2 * i)
    have h2 := hd (2 * i + 1)
    rw [← e]
    calc d (2 * i) + 2 ^ k * d (2 * i + 1) < 2 ^ k + 2 ^ k * d (2 * i + 1) := by omega
      _ = 2 ^ k * (d (2 * i + 1) + 1) := by rw [Nat.mul_add]; omega
      _ ≤ 2 ^ k * 2 ^ k := Nat.mul_le_mul_left _ h2
  · rw [← e]
    calc 2 ^ k - 1 < 2 ^ k := by omega
      _ ≤ 2 ^ k * 2 ^ k := Nat.le_mul_of_pos_right _ p

/-- Bit i. -/
def bt (x i : Nat) : Nat := (x.testBit i).toNat
theorem bt_le (x i : Nat) : bt x i < 2 := by unfold bt; cases x.testBit i <;> decide

theorem hor_bits : ∀ (n x : Nat), x < 2 ^ n → hor 2 (bt x) n = x
  | 0, x, h => by simp at h; subst h; rfl
  | n + 1, x, h => by
    show bt x 0 + 2 * hor 2 (fun i => bt x (i + 1)) n = x
    have e : (fun i => bt x (i + 1)) = bt (x / 2) := by
      funext i
      unfold bt
      rw [Nat.testBit_succ]
    rw [e, hor_bits n (x / 2) (by rw [Nat.pow_succ] at h; omega)]
    have : bt x 0 = x % 2 := by
      unfold bt
      rw [Nat.testBit_zero]
      rcases Nat.mod_two_eq_zero_or_one x with h | h <;> simp [h]
    omega

/-- How many of the first n bits are set. -/
def pc (x : Nat) : Nat → Nat
  | 0 => 0
  | n + 1 => pc x n + bt x n

theorem hor_lt (B : Nat) : ∀ (n : Nat) (d : Nat → Nat), (∀ i, d i < B) → hor B d n < B ^ n
  | 0, _, _ => by simp [hor]
  | n + 1, d, h => by
    show d 0 + B * hor B (fun i => d (i + 1)) n < B ^ (n + 1)
    have ih := hor_lt B n (fun i => d (i + 1)) (fun i => h (i + 1))
    have h0 := h 0
    calc d 0 + B * hor B (fun i => d (i + 1)) n < B + B * hor B (fun i => d (i + 1)) n := by omega
      _ = B * (hor B (fun i => d (i + 1)) n + 1) := by rw [Nat.mul_add]; omega
      _ ≤ B * B ^ n := Nat.mul_le_mul_left _ ih
      _ = B ^ (n + 1) := by rw [Nat.pow_succ, Nat.mul_comm]

theorem hor_mono (B : Nat) : ∀ (n : Nat) (d e : Nat → Nat), (∀ i, d i ≤ e i) → hor B d n ≤ hor B e n
  | 0, _, _, _ => Nat.le_refl _
  | n + 1, d, e, h => by
    show d 0 + B * hor B (fun i => d (i + 1)) n ≤ e 0 + B * hor B (fun i => e (i + 1)) n
    exact Nat.add_le_add (h 0) (Nat.mul_le_mul_left _ (hor_mono B n _ _ (fun i => h (i + 1))))

theorem bt_high (x i : Nat) (hx : x < 2 ^ 64) (hi : 64 ≤ i) : bt x i = 0 := by
  unfold bt
  rw [Nat.testBit_lt_two_pow (Nat.lt_of_lt_of_le hx (Nat.pow_le_pow_right (by omega) hi))]
  rfl

/-- THE HALVINGS COUNT THE BITS. -/
theorem swar (x : Nat) (hx : x < 2 ^ 64) (y z u v s t : Nat) (hy : y = (x / 2 &&& 6148914691236517205) + (x &&& 6148914691236517205)) (hz : z = (y / 4 &&& 3689348814741910323) + (y &&& 3689348814741910323)) (hu : u = (z / 16 + z) &&& 1085102592571150095)
    (hv : v = u + u / 256) (hs : s = v + v / 65536) (ht : t = s + s / 4294967296) :
    t % 128 = pc x 64 ∧ y < 2 ^ 64 ∧ z < 2 ^ 64 ∧ z / 16 + z < 2 ^ 64 ∧ v < 2 ^ 64 ∧ s < 2 ^ 64 ∧ t < 9223372036854775808 := by
  have hb := bt_le x
  have hh : ∀ i, 64 ≤ i → bt x i = 0 := fun i hi => bt_high x i hx hi
  have ex : x = hor (2 ^ 1) (bt x) (2 * 32) := (hor_bits 64 x hx).symm
  have ex2 : x / 2 = hor (2 ^ 1) (fun i => bt x (i + 1)) (2 * 32) := by
    have := hor_div 2 64 (bt x) (hb 0) (hh 64 (by omega))
    rw [hor_bits 64 x hx] at this
    exact this
  have m1 : 6148914691236517205 = hor (2 ^ 1 * 2 ^ 1) (fun _ => 2 ^ 1 - 1) 32 := by decide
  have m2 : 3689348814741910323 = hor (2 ^ 2 * 2 ^ 2) (fun _ => 2 ^ 2 - 1) 16 := by decide
  have m3 : 1085102592571150095 = hor (2 ^ 4 * 2 ^ 4) (fun _ => 2 ^ 4 - 1) 8 := by decide
  generalize hc : (fun i => bt x (2 * i + 1) + bt x (2 * i)) = c
  have hc' : ∀ i, c i = bt x (2 * i + 1) + bt x (2 * i) := fun i => by rw [← hc]
  have cb : ∀ i, c i ≤ 2 := fun i => by have h1 := hb (2 * i + 1); have h2 := hb (2 * i); rw [hc' i]; omega
  have ch : ∀ i, 32 ≤ i → c i = 0 := fun i hi => by rw [hc' i, hh _ (by omega), hh _ (by omega)]
  have ey : y = hor 4 c 32 := by
    rw [hy, ex2]
    conv => lhs; rhs; rw [ex]
    rw [m1, hor_even 1 32 _ (fun i => hb (i + 1)), hor_even 1 32 _ hb, hor_add]
    exact hor_congr _ _ _ _ (fun i _ => by rw [hc' i])
  generalize he : (fun i => c (2 * i + 1) + c (2 * i)) = e
  have he' : ∀ i, e i = c (2 * i + 1) + c (2 * i) := fun i => by rw [← he]
  have eb : ∀ i, e i ≤ 4 := fun i => by have h1 := cb (2 * i + 1); have h2 := cb (2 * i); rw [he' i]; omega
  have eh : ∀ i, 16 ≤ i → e i = 0 := fun i hi => by rw [he' i, ch _ (by omega), ch _ (by omega)]
  have ez : z = hor 16 e 16 := by
    have ey2 : y / 4 = hor (2 ^ 2) (fun i => c (i + 1)) (2 * 16) := by
      rw [ey]
      exact hor_div 4 32 c (by have := cb 0; omega) (ch 32 (by omega))
    have ey1 : y = hor (2 ^ 2) c (2 * 16) := ey
    rw [hz, ey2]
    conv => lhs; rhs; rw [ey1]
    rw [m2, hor_even 2 16 _ (fun i => by have := cb (i + 1); show c (i + 1) < 4; omega), hor_even 2 16 _ (fun i => by have := cb i; show c i < 4; omega), hor_add]
    exact hor_congr _ _ _ _ (fun i _ => by rw [he' i])
  generalize hf : (fun i => e (2 * i + 1) + e (2 * i)) = f
  have hf' : ∀ i, f i = e (2 * i + 1) + e (2 * i) := fun i => by rw [← hf]
  have fb : ∀ i, f i ≤ 8 := fun i => by have h1 := eb (2 * i + 1); have h2 := eb (2 * i); rw [hf' i]; omega
  have fh : ∀ i, 8 ≤ i → f i = 0 := fun i hi => by rw [hf' i, eh _ (by omega), eh _ (by omega)]
  have ezz : z / 16 + z = hor (2 ^ 4) (fun i => e (i + 1) + e i) (2 * 8) := by
    have : z / 16 = hor 16 (fun i => e (i + 1)) 16 := by
      rw [ez]
      exact hor_div 16 16 e (by have := eb 0; omega) (eh 16 (by omega))
    rw [this, ez, hor_add]
  have eu : u = hor 256 f 8 := by
    rw [hu, ezz, m3, hor_even 4 8 _ (fun i => by have h1 := eb (i + 1); have h2 := eb i; show e (i + 1) + e i < 16; omega)]
    exact hor_congr _ _ _ _ (fun i _ => by rw [hf' i])
  have ev : v = hor 256 (fun i => f i + f (i + 1)) 8 := by
    have : u / 256 = hor 256 (fun i => f (i + 1)) 8 := by
      rw [eu]
      exact hor_div 256 8 f (by have := fb 0; omega) (fh 8 (by omega))
    rw [hv, this, eu, hor_add]
  generalize hg : (fun i => f i + f (i + 1)) = g at ev
  have hg' : ∀ i, g i = f i + f (i + 1) := fun i => by rw [← hg]
  have gb : ∀ i, g i ≤ 16 := fun i => by have h1 := fb i; have h2 := fb (i + 1); rw [hg' i]; omega
  have gh : ∀ i, 8 ≤ i → g i = 0 := fun i hi => by rw [hg' i, fh _ (by omega), fh _ (by omega)]
  have es : s = hor 256 (fun i => g i + g (i + 2)) 8 := by
    have e1 : v / 256 = hor 256 (fun i => g (i + 1)) 8 := by
      rw [ev]
      exact hor_div 256 8 g (by have := gb 0; omega) (gh 8 (by omega))
    have e2 : v / 65536 = hor 256 (fun i => g (i + 2)) 8 := by
      rw [show (65536 : Nat) = 256 * 256 from rfl, ← Nat.div_div_eq_div_mul, e1]
      exact hor_div 256 8 (fun i => g (i + 1)) (Nat.lt_of_le_of_lt (gb (0 + 1)) (by omega)) (gh (8 + 1) (by omega))
    rw [hs, e2, ev, hor_add]
  generalize hh2 : (fun i => g i + g (i + 2)) = h at es
  have hh' : ∀ i, h i = g i + g (i + 2) := fun i => by rw [← hh2]
  have hhb : ∀ i, h i ≤ 32 := fun i => by have h1 := gb i; have h2 := gb (i + 2); rw [hh' i]; omega
  have hhh : ∀ i, 8 ≤ i → h i = 0 := fun i hi => by rw [hh' i, gh _ (by omega), gh _ (by omega)]
  have et : t = hor 256 (fun i => h i + h (i + 4)) 8 := by
    have e1 : s / 256 = hor 256 (fun i => h (i + 1)) 8 := by
      rw [es]
      exact hor_div 256 8 h (by have := hhb 0; omega) (hhh 8 (by omega))
    have e2 : s / 256 / 256 = hor 256 (fun i => h (i + 2)) 8 := by
      rw [e1]
      exact hor_div 256 8 (fun i => h (i + 1)) (Nat.lt_of_le_of_lt (hhb (0 + 1)) (by omega)) (hhh (8 + 1) (by omega))
    have e3 : s / 256 / 256 / 256 = hor 256 (fun i => h (i + 3)) 8 := by
      rw [e2]
      exact hor_div 256 8 (fun i => h (i + 2)) (Nat.lt_of_le_of_lt (hhb (0 + 2)) (by omega)) (hhh (8 + 2) (by omega))
    have e4 : s / 256 / 256 / 256 / 256 = hor 256 (fun i => h (i + 4)) 8 := by
      rw [e3]
      exact hor_div 256 8 (fun i => h (i + 3)) (Nat.lt_of_le_of_lt (hhb (0 + 3)) (by omega)) (hhh (8 + 3) (by omega))
    have e5 : s / 4294967296 = s / 256 / 256 / 256 / 256 := by rw [Nat.div_div_eq_div_mul, Nat.div_div_eq_div_mul, Nat.div_div_eq_div_mul]
    rw [ht, e5, e4, es, hor_add]
  refine ⟨?_, ?_, ?_, ?_, ?_, ?_, ?_⟩
  · have e0 : t = (h 0 + h (0 + 4)) + 256 * hor 256 (fun i => h (i + 1) + h (i + 1 + 4)) 7 := et
    have b0 := hhb 0
    have b4 := hhb (0 + 4)
    have e1 : t % 128 = h 0 + h (0 + 4) := by omega
    rw [e1]
    simp only [hh', hg', hf', he', hc', pc, Nat.reduceAdd, Nat.reduceMul]
    omega
  · rw [ey]; exact hor_lt 4 32 c (fun i => by have := cb i; omega)
  · rw [ez]; exact hor_lt 16 16 e (fun i => by have := eb i; omega)
  · rw [ezz]; exact hor_lt 16 16 _ (fun i => by have h1 := eb (i + 1); have h2 := eb i; omega)
  · rw [ev]; exact hor_lt 256 8 g (fun i => by have := gb i; omega)
  · rw [es]; exact hor_lt 256 8 h (fun i => by have := hhb i; omega)
  · rw [et]
    exact Nat.lt_of_le_of_lt (hor_mono 256 8 _ (fun _ => 64) (fun i => by have h1 := hhb i; have h2 := hhb (i + 4); show h i + h (i + 4) ≤ 64; omega)) (by decide)
end Go.Proofs.Ybulkarya.script
