import Derived.Test.Qxb6000716aModsLimbs
namespace Go.Proofs.Qxb6000716aMods
open Go.RowKit

theorem ret_int {k : IntKind} {a b : Int} (h : a = b) : Ending.returned (.int k a) = .returned (.int k b) := by rw [h]
def limArr (N : Nat) : Array Value := #[.int .u64 (lim N 0 : Int), .int .u64 (lim N 1 : Int), .int .u64 (lim N 2 : Int), .int .u64 (lim N 3 : Int)]
theorem lim_cell (N : Nat) (w : World) (k : Nat) (hk : k < 4) : (w.alloc (.cells (limArr N) 27)).cell? ⟨w.heap.size, k, none⟩ = some (.int .u64 (lim N k : Int)) := by
  rw [cell_of_row _ w.heap.size k (limArr N) 27 (0, 0) (heap_alloc_new w _)]
  match k, hk with
  | 0, _ => rfl
  | 1, _ => rfl
  | 2, _ => rfl
  | 3, _ => rfl

theorem mod_pow_mod (M n : Nat) (hn : 6 ≤ n) : M % 2 ^ n % 64 = M % 64 := Nat.mod_mod_of_dvd _ (by
  have : (64 : Nat) = 2 ^ 6 := rfl
  rw [this]
  exact Nat.pow_dvd_pow 2 hn)
theorem lim_lt (N k : Nat) : lim N k < 2 ^ 64 := Nat.mod_lt _ (Nat.two_pow_pos _)
theorem lim_shift (N k s : Nat) (hs : s ≤ 64) : lim N k / 2 ^ s = N / 2 ^ (64 * k + s) % 2 ^ (64 - s) := by
  unfold lim
  have e : (2 : Nat) ^ 64 = 2 ^ s * 2 ^ (64 - s) := by rw [← Nat.pow_add]; congr 1; omega
  rw [e, Nat.mod_mul_right_div_self, Nat.div_div_eq_div_mul, ← Nat.pow_add]
theorem mask63 (X : Nat) (hX : X < 2 ^ 64) : wrap64 (bits BinOp.and IntKind.u64 (X : Int) 63) = ((X % 64 : Nat) : Int) := by
  have e : bits BinOp.and IntKind.u64 (X : Int) ((63 : Nat) : Int) = ((X &&& 63 : Nat) : Int) := u64_and_nat X 63 hX (by omega)
  rw [nat_mask6] at e
  have e2 : ((63 : Nat) : Int) = 63 := rfl
  rw [e2] at e
  rw [e, IntWalk.wrap64_in _ ⟨by omega, by omega⟩]
theorem val_low (N k s : Nat) (hs : s ≤ 58) : wrap64 (bits BinOp.and IntKind.u64 ((lim N k : Int) / 2 ^ s) 63) = ((N / 2 ^ (64 * k + s) % 64 : Nat) : Int) := by
  have h1 : (lim N k : Int) / 2 ^ s = ((lim N k / 2 ^ s : Nat) : Int) := by simp
  have h2 := lim_lt N k
  have h3 : lim N k / 2 ^ s ≤ lim N k := Nat.div_le_self _ _
  rw [h1, mask63 _ (by omega), lim_shift N k s (by omega), mod_pow_mod _ _ (by omega)]
theorem val_top (N s : Nat) (hN : N < 2 ^ 256) : wrap64 (bits BinOp.and IntKind.u64 ((lim N 3 : Int) / 2 ^ s) 63) = ((N / 2 ^ (64 * 3 + s) % 64 : Nat) : Int) := by
  have h1 : (lim N 3 : Int) / 2 ^ s = ((lim N 3 / 2 ^ s : Nat) : Int) := by simp
  have h2 := lim_lt N 3
  have h3 : lim N 3 / 2 ^ s ≤ lim N 3 := Nat.div_le_self _ _
  have h4 : lim N 3 = N / 2 ^ (64 * 3) := Nat.mod_eq_of_lt (by
    rw [Nat.div_lt_iff_lt_mul (Nat.two_pow_pos _), ← Nat.pow_add]
    exact hN)
  rw [h1, mask63 _ (by omega), h4, Nat.div_div_eq_div_mul, ← Nat.pow_add]
theorem div_join (M s : Nat) (hs : s ≤ 64) : M / 2 ^ s = M % 2 ^ 64 / 2 ^ s + M / 2 ^ 64 * 2 ^ (64 - s) := by
  have e : (2 : Nat) ^ 64 = 2 ^ s * 2 ^ (64 - s) := by rw [← Nat.pow_add]; congr 1; omega
  have h := Nat.div_add_mod M (2 ^ 64)
  conv => lhs; rw [← h, e, show 2 ^ s * 2 ^ (64 - s) * (M / (2 ^ s * 2 ^ (64 - s))) = 2 ^ s * (M / (2 ^ s * 2 ^ (64 - s)) * 2 ^ (64 - s)) from by ac_rfl, Nat.mul_add_div (Nat.two_pow_pos _)]
  rw [e, Nat.add_comm]
theorem val_join (N k s : Nat) (h1 : 58 < s) (h2 : s < 64) :
    wrap64 (bits BinOp.and IntKind.u64 (bits BinOp.or IntKind.u64 ((lim N k : Int) / 2 ^ s) (IntKind.u64.wrap ((lim N (k + 1) : Int) * 2 ^ (64 - s)))) 63) = ((N / 2 ^ (64 * k + s) % 64 : Nat) : Int) := by
  have e1 : (lim N k : Int) / 2 ^ s = ((lim N k / 2 ^ s : Nat) : Int) := by simp
  have e2 : IntKind.u64.wrap ((lim N (k + 1) : Int) * 2 ^ (64 - s)) = ((lim N (k + 1) * 2 ^ (64 - s) % 2 ^ 64 : Nat) : Int) := by
    rw [IntKind.wrap_u64]
    simp
  have q1 := lim_lt N k
  have q2 : lim N k / 2 ^ s < 2 ^ (64 - s) := by rw [lim_shift N k s (by omega)]; exact Nat.mod_lt _ (Nat.two_pow_pos _)
  have q3 : lim N k / 2 ^ s ≤ lim N k := Nat.div_le_self _ _
  have q4 : lim N (k + 1) * 2 ^ (64 - s) % 2 ^ 64 < 2 ^ 64 := Nat.mod_lt _ (Nat.two_pow_pos _)
  have q5 : lim N (k + 1) * 2 ^ (64 - s) % 2 ^ 64 % 2 ^ (64 - s) = 0 := by
    rw [Nat.mod_mod_of_dvd _ (Nat.pow_dvd_pow 2 (by omega)), Nat.mul_mod_left]
  have q6 : lim N (k + 1) * 2 ^ (64 - s) % 2 ^ 64 ||| lim N k / 2 ^ s = lim N (k + 1) * 2 ^ (64 - s) % 2 ^ 64 + lim N k / 2 ^ s := nat_join (64 - s) _ _ q5 q2
  have q7 : lim N (k + 1) * 2 ^ (64 - s) % 2 ^ 64 + lim N k / 2 ^ s < 2 ^ 64 := by
    rw [← q6]
    exact Nat.or_lt_two_pow q4 (by omega)
  rw [e1, e2, u64_or_nat _ _ (by omega) q4, Nat.or_comm, q6, mask63 _ q7]
  congr 1
  have r1 : N / 2 ^ (64 * k + s) = N / 2 ^ (64 * k) / 2 ^ s := by rw [Nat.div_div_eq_div_mul, ← Nat.pow_add]
  have r2 : N / 2 ^ (64 * (k + 1)) = N / 2 ^ (64 * k) / 2 ^ 64 := by rw [Nat.div_div_eq_div_mul, ← Nat.pow_add]; rfl
  have r3 : lim N (k + 1) % 64 = N / 2 ^ (64 * k) / 2 ^ 64 % 64 := by
    unfold lim
    rw [mod_pow_mod _ _ (by omega), r2]
  rw [r1, div_join (N / 2 ^ (64 * k)) s (by omega), Nat.add_comm, Nat.add_mod, mod_pow_mod _ _ (by omega), Nat.mul_mod, r3, ← Nat.mul_mod, ← Nat.add_mod]
  rfl
theorem six (i : Nat) : 64 * (6 * i / 64) + 6 * i % 64 = 6 * i := Nat.div_add_mod _ _

set_option maxRecDepth 100000 in
set_option maxHeartbeats 1600000 in
theorem window_any (N i : Nat) (hN : N < 2 ^ 256) (hi : i < 43) (w : World) :
    Calls Trym.prog 11 #[.agg #[.int .u64 (lim N 0 : Int), .int .u64 (lim N 1 : Int), .int .u64 (lim N 2 : Int), .int .u64 (lim N 3 : Int)], .int .i64 i] w fun e w' => e = .returned (.int .i64 (win N i)) ∧ Below w.heap.size w w' := by
  have hc0 := lim_cell N w (6 * i / 64) (by omega)
  unfold limArr at hc0
  have HN : Hid (N < 2 ^ 256) := hN
  clear hN
  by_cases h1 : 6 * i % 64 ≤ 58
  · have hd : decide ((58 : Int) < 6 * (i : Int) % 64) = false := decide_eq_false (by have h1' := Nat.not_lt.2 h1; exact_mod_cast h1')
    go_enter Trym.func11, Trym.ntmps11
    go_wp2
    go_ret
    exact ⟨ret_int (by rw [val_low N _ _ h1, six]; rfl), (Below.refl _ _).alloc (Nat.le_refl _) _⟩
  · by_cases h2 : 6 * i / 64 + 1 < 4
    · have hc1 := lim_cell N w (6 * i / 64 + 1) (by omega)
      unfold limArr at hc1
      have hd : (58 : Int) < 6 * (i : Int) % 64 := by have h1' := Nat.not_le.1 h1; exact_mod_cast h1'
      have hd2 : 6 * (i : Int) / 64 + 1 < 4 := by exact_mod_cast h2
      go_enter Trym.func11, Trym.ntmps11
      go_wp2
      go_ret
      exact ⟨ret_int (by rw [val_join N _ _ (by omega) (by omega), six]; rfl), (Below.refl _ _).alloc (Nat.le_refl _) _⟩
    · have hd : (58 : Int) < 6 * (i : Int) % 64 := by have h1' := Nat.not_le.1 h1; exact_mod_cast h1'
      have hd2 : ¬ 6 * (i : Int) / 64 + 1 < 4 := by exact_mod_cast h2
      go_enter Trym.func11, Trym.ntmps11
      go_wp2
      go_ret
      exact ⟨ret_int (by
        have e3 : 6 * i / 64 = 3 := by omega
        have e4 := six i
        rw [e3] at e4 ⊢
        rw [val_top N _ HN.out, e4]; rfl), (Below.refl _ _).alloc (Nat.le_refl _) _⟩
end Go.Proofs.Qxb6000716aMods
