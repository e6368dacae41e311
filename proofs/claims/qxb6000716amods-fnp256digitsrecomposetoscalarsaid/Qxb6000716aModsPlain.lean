import Derived.KernelRfl
namespace Go.Proofs.Qxb6000716aMods

/-- The number whose byte q (from the least on) is f q, of n bytes. -/
def num (f : Nat → Nat) : Nat → Nat
  | 0 => 0
  | n + 1 => num f n + f n * 256 ^ n
theorem num_lt (f : Nat → Nat) (hf : ∀ q, f q < 256) : ∀ n, num f n < 256 ^ n
  | 0 => by simp [num]
  | n + 1 => by
    have h1 := num_lt f hf n
    have h2 := hf n
    have h3 : f n * 256 ^ n ≤ 255 * 256 ^ n := Nat.mul_le_mul_right _ (by omega)
    simp only [num, Nat.pow_succ]
    omega
theorem num_byte (f : Nat → Nat) (hf : ∀ q, f q < 256) : ∀ n q, q < n → num f n / 256 ^ q % 256 = f q
  | 0, q, h => absurd h (by omega)
  | n + 1, q, h => by
    have h1 := num_lt f hf n
    have hp : 0 < 256 ^ q := Nat.pow_pos (by decide)
    simp only [num]
    by_cases hq : q = n
    · subst hq
      rw [Nat.add_mul_div_right _ _ hp, Nat.div_eq_of_lt h1, Nat.zero_add, Nat.mod_eq_of_lt (hf q)]
    · have e : 256 ^ n = 256 ^ q * (256 * 256 ^ (n - q - 1)) := by
        rw [← Nat.pow_succ', ← Nat.pow_add]
        congr 1
        omega
      rw [e, show f n * (256 ^ q * (256 * 256 ^ (n - q - 1))) = 256 ^ q * (256 * (f n * 256 ^ (n - q - 1))) from by ac_rfl, Nat.add_mul_div_left _ _ hp, Nat.add_mul_mod_self_left]
      exact num_byte f hf n q (by omega)

/-- Digit i of N to the base 64. -/
def win (N i : Nat) : Nat := N / 2 ^ (6 * i) % 64
/-- The carry into digit i. -/
def cy (N : Nat) : Nat → Nat
  | 0 => 0
  | i + 1 => if 32 < cy N i + win N i then 1 else 0
/-- The signed digit i. -/
def dig (N i : Nat) : Int := (cy N i : Int) + win N i - 64 * cy N (i + 1)
theorem win_lt (N i : Nat) : win N i < 64 := Nat.mod_lt _ (by decide)
theorem cy_le (N : Nat) : ∀ i, cy N i ≤ 1
  | 0 => Nat.zero_le _
  | i + 1 => by simp only [cy]; split <;> omega
theorem cy_yes {N i : Nat} (h : 32 < cy N i + win N i) : cy N (i + 1) = 1 := by simp only [cy]; rw [if_pos h]
theorem cy_no {N i : Nat} (h : ¬ 32 < cy N i + win N i) : cy N (i + 1) = 0 := by simp only [cy]; rw [if_neg h]
theorem cy_last {N : Nat} (h : N < 2 ^ 256) : cy N 43 = 0 := by
  apply cy_no
  have h1 := cy_le N 42
  have h2 : win N 42 ≤ 15 := by
    unfold win
    have : N / 2 ^ (6 * 42) < 2 ^ 4 := by
      rw [Nat.div_lt_iff_lt_mul (Nat.two_pow_pos _), ← Nat.pow_add]
      exact h
    have := Nat.mod_le (N / 2 ^ (6 * 42)) 64
    omega
  omega

/-- One bit of N out of its byte. -/
theorem bit_of_byte (N q r : Nat) (hr : r < 8) : N / 256 ^ q % 256 / 2 ^ r % 2 = N / 2 ^ (8 * q + r) % 2 := by
  have e : (256 : Nat) = 2 ^ r * 2 ^ (8 - r) := by
    rw [← Nat.pow_add, show r + (8 - r) = 8 from by omega]
  have e1 : (256 : Nat) ^ q = 2 ^ (8 * q) := by rw [Nat.pow_mul]
  rw [e1]
  conv => lhs; rw [show N / 2 ^ (8 * q) % 256 = N / 2 ^ (8 * q) % (2 ^ r * 2 ^ (8 - r)) from by rw [← e]]
  rw [Nat.mod_mul_right_div_self, Nat.mod_mod_of_dvd _ (Nat.dvd_trans (by decide : 2 ∣ 2 ^ 1) (Nat.pow_dvd_pow 2 (by omega))), Nat.div_div_eq_div_mul, ← Nat.pow_add]

/-- The low b + 1 bits out of the low b bits and bit b. -/
theorem low_succ (M b : Nat) : M % 2 ^ (b + 1) = M % 2 ^ b + M / 2 ^ b % 2 * 2 ^ b := by
  rw [Nat.pow_succ, Nat.mod_mul, Nat.mul_comm (2 ^ b)]

theorem low_step (N i b : Nat) : N / 2 ^ (6 * i) % 2 ^ (b + 1) = N / 2 ^ (6 * i) % 2 ^ b + N / 2 ^ (6 * i + b) % 2 * 2 ^ b := by
  rw [low_succ, Nat.div_div_eq_div_mul, ← Nat.pow_add]
theorem low_past (N i b : Nat) (h : N < 2 ^ 256) (hb : 256 ≤ 6 * i + b) : N / 2 ^ (6 * i) % 2 ^ (b + 1) = N / 2 ^ (6 * i) % 2 ^ b := by
  rw [low_step, Nat.div_eq_of_lt (Nat.lt_of_lt_of_le h (Nat.pow_le_pow_right (by decide) hb))]
  simp
end Go.Proofs.Qxb6000716aMods
