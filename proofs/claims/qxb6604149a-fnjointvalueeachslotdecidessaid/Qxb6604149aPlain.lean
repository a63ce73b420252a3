/-
  Seat b6604149a: the plain mathematics: the fold by xor, byte by byte; its bits; its parity. No Go in sight.
-/
namespace Go.Proofs.Qxb6604149a

/-- byte k of the xor of the first n arrays -/
def J (Z : Nat → Nat → Nat) : Nat → Nat → Nat
  | 0, _ => 0
  | n + 1, k => J Z n k ^^^ Z n k

theorem J_lt {Z : Nat → Nat → Nat} (h : ∀ i k, Z i k < 256) : ∀ n k, J Z n k < 256
  | 0, _ => by simp [J]
  | n + 1, k => by
    have h1 := J_lt h n k
    have h2 := h n k
    exact Nat.xor_lt_two_pow (n := 8) h1 h2

theorem J_congr {Z Z' : Nat → Nat → Nat} : ∀ (n k : Nat), (∀ i, i < n → Z i k = Z' i k) → J Z n k = J Z' n k
  | 0, _, _ => rfl
  | n + 1, k, h => by
    rw [J, J, J_congr n k (fun i hi => h i (by omega)), h n (by omega)]

/-- how many of the first n arrays have bit b of byte k set -/
def cnt (Z : Nat → Nat → Nat) (k b : Nat) : Nat → Nat
  | 0 => 0
  | n + 1 => cnt Z k b n + Z n k / 2 ^ b % 2

theorem cnt_le (Z : Nat → Nat → Nat) (k b : Nat) : ∀ n, cnt Z k b n ≤ n
  | 0 => Nat.le_refl _
  | n + 1 => by
    have := cnt_le Z k b n
    have h2 : Z n k / 2 ^ b % 2 < 2 := Nat.mod_lt _ (by decide)
    rw [cnt]; omega

theorem bit_xor (x y b : Nat) : (x ^^^ y) / 2 ^ b % 2 = (x / 2 ^ b % 2 + y / 2 ^ b % 2) % 2 := by
  have h := Nat.testBit_xor x y b
  simp only [Nat.testBit_eq_decide_div_mod_eq] at h
  have h1 : (x ^^^ y) / 2 ^ b % 2 < 2 := Nat.mod_lt _ (by decide)
  have h2 : x / 2 ^ b % 2 < 2 := Nat.mod_lt _ (by decide)
  have h3 : y / 2 ^ b % 2 < 2 := Nat.mod_lt _ (by decide)
  generalize (x ^^^ y) / 2 ^ b % 2 = p at *
  generalize x / 2 ^ b % 2 = q at *
  generalize y / 2 ^ b % 2 = r at *
  have hp : p = 0 ∨ p = 1 := by omega
  have hq : q = 0 ∨ q = 1 := by omega
  have hr : r = 0 ∨ r = 1 := by omega
  rcases hp with rfl | rfl <;> rcases hq with rfl | rfl <;> rcases hr with rfl | rfl <;> simp_all

theorem cnt_parity (Z : Nat → Nat → Nat) (k b : Nat) : ∀ n, cnt Z k b n % 2 = J Z n k / 2 ^ b % 2
  | 0 => by simp [cnt, J]
  | n + 1 => by
    rw [cnt, J, bit_xor, ← cnt_parity Z k b n]; omega

/-- the byte as it is put together, bit by bit -/
def out (x b : Nat) : Nat := x % 2 ^ b

theorem out_zero (x : Nat) : out x 0 = 0 := by simp [out, Nat.mod_one]
theorem out_lt (x b : Nat) (hb : b ≤ 8) : out x b < 256 := by
  have h1 : x % 2 ^ b < 2 ^ b := Nat.mod_lt _ (Nat.two_pow_pos b)
  have h2 : 2 ^ b ≤ 2 ^ 8 := Nat.pow_le_pow_right (by decide) hb
  unfold out; omega
theorem out_eight (x : Nat) (h : x < 256) : out x 8 = x := Nat.mod_eq_of_lt h
theorem out_odd (x b : Nat) (h : x / 2 ^ b % 2 = 1) : out x (b + 1) = out x b ||| 2 ^ b := by
  unfold out
  apply Nat.eq_of_testBit_eq
  intro i
  rw [Nat.testBit_or, Nat.testBit_mod_two_pow, Nat.testBit_mod_two_pow, Nat.testBit_two_pow]
  by_cases hi : i = b
  · subst hi
    simp [Nat.testBit_eq_decide_div_mod_eq, h]
  · have e : decide (b = i) = false := by simp; omega
    rw [e, Bool.or_false]
    by_cases h1 : i < b
    · simp [h1, show i < b + 1 by omega]
    · simp [h1, show ¬ i < b + 1 by omega]
theorem out_even (x b : Nat) (h : x / 2 ^ b % 2 = 0) : out x (b + 1) = out x b := by
  unfold out
  apply Nat.eq_of_testBit_eq
  intro i
  rw [Nat.testBit_mod_two_pow, Nat.testBit_mod_two_pow]
  by_cases hi : i = b
  · subst hi
    simp [Nat.testBit_eq_decide_div_mod_eq, h]
  · by_cases h1 : i < b
    · simp [h1, show i < b + 1 by omega]
    · simp [h1, show ¬ i < b + 1 by omega]

end Go.Proofs.Qxb6604149a
