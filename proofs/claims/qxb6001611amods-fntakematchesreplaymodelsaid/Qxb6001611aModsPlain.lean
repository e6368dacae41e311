import Derived.KernelRfl
namespace Go.Proofs.Qxb6001611aMods

/-- The word B with the bit of number n cleared. -/
def clr (B n : Nat) : Nat := B &&& (18446744073709551615 - 2 ^ (n % 64))
/-- .. with the bits of the m numbers behind T cleared. -/
def clrTo (T B : Nat) : Nat → Nat
  | 0 => B
  | m + 1 => clr (clrTo T B m) (T + 1 + m)
/-- .. with the bit of number n set. -/
def put (B n : Nat) : Nat := B ||| 2 ^ (n % 64)

theorem pow_lt (n : Nat) : 2 ^ (n % 64) < 18446744073709551616 := by
  have h : n % 64 < 64 := Nat.mod_lt _ (by decide)
  exact Nat.pow_lt_pow_right (a := 2) (by decide) h
theorem clr_lt {B : Nat} (h : B < 18446744073709551616) (n : Nat) : clr B n < 18446744073709551616 := Nat.lt_of_le_of_lt Nat.and_le_left h
theorem clrTo_lt {B : Nat} (h : B < 18446744073709551616) (T : Nat) : ∀ m, clrTo T B m < 18446744073709551616
  | 0 => h
  | m + 1 => clr_lt (clrTo_lt h T m) _
theorem put_lt {B : Nat} (h : B < 18446744073709551616) (n : Nat) : put B n < 18446744073709551616 := Nat.or_lt_two_pow (n := 64) h (pow_lt n)

theorem bit_put (B n j : Nat) : (put B n).testBit j = (B.testBit j || decide (n % 64 = j)) := by
  unfold put
  rw [Nat.testBit_or, Nat.testBit_two_pow]
theorem bit_clr {B : Nat} (n j : Nat) (hj : j < 64) : (clr B n).testBit j = (B.testBit j && !decide (n % 64 = j)) := by
  unfold clr
  have h := Nat.testBit_two_pow_sub_succ (x := 2 ^ (n % 64)) (n := 64) (pow_lt n) j
  have e : (18446744073709551615 - 2 ^ (n % 64) : Nat) = 2 ^ 64 - (2 ^ (n % 64) + 1) := by omega
  rw [Nat.testBit_and, e, h, Nat.testBit_two_pow]
  simp [hj]
theorem bit_clrTo {B : Nat} (T j : Nat) (hj : j < 64) : ∀ m, (clrTo T B m).testBit j = true ↔ (B.testBit j = true ∧ ∀ n, T < n → n ≤ T + m → n % 64 ≠ j)
  | 0 => by
    constructor
    · intro h
      exact ⟨h, fun n h1 h2 => absurd h2 (by omega)⟩
    · exact fun h => h.1
  | m + 1 => by
    simp only [clrTo]
    rw [bit_clr _ _ hj, Bool.and_eq_true, bit_clrTo T j hj m]
    constructor
    · rintro ⟨⟨h1, h2⟩, h3⟩
      refine ⟨h1, fun n g1 g2 => ?_⟩
      by_cases hn : n = T + 1 + m
      · subst hn
        simpa using h3
      · exact h2 n g1 (by omega)
    · rintro ⟨h1, h2⟩
      refine ⟨⟨h1, fun n g1 g2 => h2 n g1 (by omega)⟩, ?_⟩
      have := h2 (T + 1 + m) (by omega) (by omega)
      simpa using this

/-- What the window's word says: of the 64 numbers up to t just those in S are marked; S lies at or below t. -/
structure Inv (t B : Nat) (S : List Nat) : Prop where
  lt : B < 18446744073709551616
  top : t ≤ 18446744073709551551
  mark : ∀ n, n ≤ t → t - n < 64 → (B.testBit (n % 64) = true ↔ n ∈ S)
  below : ∀ n ∈ S, n ≤ t

theorem inv_start : Inv 0 0 [] := ⟨by decide, by decide, fun n _ _ => by simp, by simp⟩
theorem inv_new (s : Nat) (hs : s ≤ 18446744073709551551) : Inv s (put 0 s) [s] := by
  refine ⟨put_lt (by decide) s, hs, fun n h1 h2 => ?_, fun n hn => by simp at hn; omega⟩
  rw [bit_put]
  simp
  omega
theorem inv_low {t B : Nat} {S : List Nat} (h : Inv t B S) {s : Nat} (hs : s ≤ t) (hd : t - s < 64) : Inv t (put B s) (S ++ [s]) := by
  refine ⟨put_lt h.lt s, h.top, fun n h1 h2 => ?_, fun n hn => ?_⟩
  · rw [bit_put, Bool.or_eq_true, h.mark n h1 h2]
    simp
    constructor
    · rintro (h3 | h3)
      · exact Or.inl h3
      · exact Or.inr (by omega)
    · rintro (h3 | h3)
      · exact Or.inl h3
      · exact Or.inr (by omega)
  · rcases List.mem_append.1 hn with hn | hn
    · exact h.below n hn
    · simp at hn; omega
/-- The bits of the numbers that a higher top brings in are clear. -/
theorem clear_new {t B : Nat} {s : Nat} (h1 : t < s) (n : Nat) (g1 : t < n) (g2 : n ≤ s) : (clrTo t B (min (s - t) 64)).testBit (n % 64) = false := by
  cases hb : (clrTo t B (min (s - t) 64)).testBit (n % 64)
  · rfl
  · exfalso
    have h := ((bit_clrTo t (n % 64) (Nat.mod_lt _ (by decide)) _).1 hb).2
    by_cases hn : n ≤ t + 64
    · exact h n g1 (by omega) rfl
    · have hm := h (t + 1 + (n - (t + 1)) % 64) (by omega) (by omega)
      omega
theorem inv_high {t B : Nat} {S : List Nat} (h : Inv t B S) {s : Nat} (hs : t < s) (hs2 : s ≤ 18446744073709551551) : Inv s (put (clrTo t B (min (s - t) 64)) s) (S ++ [s]) := by
  refine ⟨put_lt (clrTo_lt h.lt t _) s, hs2, fun n h1 h2 => ?_, fun n hn => ?_⟩
  · rw [bit_put, Bool.or_eq_true]
    simp only [List.mem_append, List.mem_singleton, decide_eq_true_eq]
    by_cases hn : n ≤ t
    · rw [bit_clrTo t (n % 64) (Nat.mod_lt _ (by decide)), h.mark n hn (by omega)]
      constructor
      · rintro (⟨h3, _⟩ | h3)
        · exact Or.inl h3
        · exact Or.inr (by omega)
      · rintro (h3 | h3)
        · exact Or.inl ⟨h3, fun m g1 g2 => by omega⟩
        · exact absurd h3 (by omega)
    · rw [clear_new hs n (by omega) h1]
      constructor
      · rintro (h3 | h3)
        · cases h3
        · exact Or.inr (by omega)
      · rintro (h3 | h3)
        · exact absurd (h.below n h3) hn
        · exact Or.inr (by rw [h3])
  · rcases List.mem_append.1 hn with hn | hn
    · have := h.below n hn; omega
    · simp at hn; omega
end Go.Proofs.Qxb6001611aMods
