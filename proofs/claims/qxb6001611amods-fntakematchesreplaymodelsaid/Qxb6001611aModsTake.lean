import Derived.Test.Qxb6001611aModsBase
namespace Go.Proofs.Qxb6001611aMods
open Go.RowKit

/-- Block g holds the window. -/
def Win (w : World) (g I T B : Nat) : Prop := w.heap[g]? = some (.cells #[.int .u64 (I : Int), .int .u64 (T : Int), .int .u64 (B : Int)] 33 (0, 0))
theorem Win.c0 {w : World} {g I T B : Nat} (h : Win w g I T B) : w.cell? ⟨g, 0, none⟩ = some (.int .u64 (I : Int)) := by rw [cell_of_row w g 0 _ 33 (0, 0) h]; rfl
theorem Win.c1 {w : World} {g I T B : Nat} (h : Win w g I T B) : w.cell? ⟨g, 1, none⟩ = some (.int .u64 (T : Int)) := by rw [cell_of_row w g 1 _ 33 (0, 0) h]; rfl
theorem Win.c2 {w : World} {g I T B : Nat} (h : Win w g I T B) : w.cell? ⟨g, 2, none⟩ = some (.int .u64 (B : Int)) := by rw [cell_of_row w g 2 _ 33 (0, 0) h]; rfl
theorem Win.fr {w : World} {g I T B : Nat} (h : Win w g I T B) (j : Nat) : w.frozen? ⟨g, j, none⟩ = false := frozen_of_row w g j _ 33 h
theorem Win.set0 {w : World} {g I T B : Nat} (h : Win w g I T B) (x : Nat) : Win (w.setCell ⟨g, 0, none⟩ (.int .u64 (x : Int))) g x T B := heap_setCell_same w g 0 _ 33 _ h
theorem Win.set1 {w : World} {g I T B : Nat} (h : Win w g I T B) (x : Nat) : Win (w.setCell ⟨g, 1, none⟩ (.int .u64 (x : Int))) g I x B := heap_setCell_same w g 1 _ 33 _ h
theorem Win.set2 {w : World} {g I T B : Nat} (h : Win w g I T B) (x : Nat) : Win (w.setCell ⟨g, 2, none⟩ (.int .u64 (x : Int))) g I T x := heap_setCell_same w g 2 _ 33 _ h

def Took (w : World) (g : Nat) (ok : Bool) (I T B : Nat) (e : Ending) (w' : World) : Prop := e = .returned (.bool ok) ∧ Win w' g I T B ∧ Below g w w'

set_option maxHeartbeats 400000 in
theorem take_old (g I T B i s : Nat) (w : World) (h : Win w g I T B) (h1 : i < I) :
    Calls Trym.prog 10 #[.pointer (some ⟨g, 0, none⟩), .int .u64 (i : Int), .int .u64 (s : Int)] w (Took w g false I T B) := by
  have c0 := h.c0
  have c1 := h.c1
  have c2 := h.c2
  have H : Hid (Win w g I T B) := h
  clear h
  go_enter Trym.func10, Trym.ntmps10
  go_wp2
  go_ret
  exact ⟨rfl, H.out, Below.refl _ _⟩

theorem wrap_pow (n : Nat) : IntKind.u64.wrap ((2 : Int) ^ (n % 64)) = ((2 ^ (n % 64) : Nat) : Int) := by
  rw [IntKind.wrap_u64]
  have h := pow_lt n
  have e : (2 : Int) ^ (n % 64) = ((2 ^ (n % 64) : Nat) : Int) := by simp
  rw [e]
  exact Int.emod_eq_of_lt (Int.natCast_nonneg _) (Int.ofNat_lt.2 h)
theorem below_cell {g : Nat} {w wr : World} (h : Below g w wr) (j : Nat) (v : Value) : Below g w (wr.setCell ⟨g, j, none⟩ v) := h.setCell (p := ⟨g, j, none⟩) (Nat.le_refl _) v
theorem test_bit {B : Nat} (hB : B < 18446744073709551616) (n : Nat) : (bits BinOp.and IntKind.u64 (B : Int) (IntKind.u64.wrap (2 ^ (n % 64))) != 0) = B.testBit (n % 64) := by
  rw [wrap_pow, u64_and_nat B _ hB (pow_lt n), nat_bit]
  have e := Nat.testBit_eq_decide_div_mod_eq (x := B) (i := n % 64)
  rw [e]
  have h2 : B / 2 ^ (n % 64) % 2 = 0 ∨ B / 2 ^ (n % 64) % 2 = 1 := by omega
  have hp : 0 < 2 ^ (n % 64) := Nat.two_pow_pos _
  rcases h2 with h2 | h2
  · rw [h2]; simp
  · rw [h2, Nat.one_mul]
    have hne : ((2 ^ (n % 64) : Nat) : Int) ≠ 0 := by exact_mod_cast Nat.ne_of_gt hp
    rw [bne_iff_ne.2 hne]
    rfl
theorem or_bit {B : Nat} (hB : B < 18446744073709551616) (n : Nat) : bits BinOp.or IntKind.u64 (B : Int) (IntKind.u64.wrap (2 ^ (n % 64))) = ((put B n : Nat) : Int) := by
  rw [wrap_pow, u64_or_nat B _ hB (pow_lt n)]
  rfl
theorem andNot_bit {B : Nat} (hB : B < 18446744073709551616) (n : Nat) : bits BinOp.andNot IntKind.u64 (B : Int) (IntKind.u64.wrap (2 ^ (n % 64))) = ((clr B n : Nat) : Int) := by
  rw [wrap_pow, u64_andNot_nat B _ hB (pow_lt n)]
  rfl

set_option maxHeartbeats 400000 in
theorem take_new (g I T B i s : Nat) (w : World) (h : Win w g I T B) (h1 : I < i) :
    Calls Trym.prog 10 #[.pointer (some ⟨g, 0, none⟩), .int .u64 (i : Int), .int .u64 (s : Int)] w (Took w g true i s (put 0 s)) := by
  have c0 := h.c0
  have c1 := h.c1
  have c2 := h.c2
  have f0 := h.fr 0
  have f1 := h.fr 1
  have f2 := h.fr 2
  have H : Hid (Win w g I T B) := h
  clear h
  have ht : (bits BinOp.and IntKind.u64 0 (IntKind.u64.wrap (2 ^ (s % 64))) != 0) = false := (test_bit (B := 0) (by decide) s).trans (by simp)
  have Ho : Hid (bits BinOp.or IntKind.u64 0 (IntKind.u64.wrap (2 ^ (s % 64))) = ((put 0 s : Nat) : Int)) := or_bit (B := 0) (by decide) s
  go_enter Trym.func10, Trym.ntmps10
  go_wp2
  go_ret
  rw [Ho.out]
  exact ⟨rfl, (((H.out.set0 i).set1 s).set2 0).set2 _, below_cell (below_cell (below_cell (below_cell (Below.refl _ _) _ _) _ _) _ _) _ _⟩

set_option maxHeartbeats 400000 in
theorem take_far (g I T B s : Nat) (w : World) (h : Win w g I T B) (h1 : s ≤ T) (h2 : 64 ≤ T - s) (hT : T < 18446744073709551616) :
    Calls Trym.prog 10 #[.pointer (some ⟨g, 0, none⟩), .int .u64 (I : Int), .int .u64 (s : Int)] w (Took w g false I T B) := by
  have c0 := h.c0
  have c1 := h.c1
  have c2 := h.c2
  have H : Hid (Win w g I T B) := h
  clear h
  go_enter Trym.func10, Trym.ntmps10
  go_wp2
  go_ret
  exact ⟨rfl, H.out, Below.refl _ _⟩

set_option maxHeartbeats 400000 in
theorem take_seen (g I T B s : Nat) (w : World) (h : Win w g I T B) (h1 : s ≤ T) (h2 : T - s < 64) (hT : T < 18446744073709551616) (hB : B < 18446744073709551616) (hbit : B.testBit (s % 64) = true) :
    Calls Trym.prog 10 #[.pointer (some ⟨g, 0, none⟩), .int .u64 (I : Int), .int .u64 (s : Int)] w (Took w g false I T B) := by
  have c0 := h.c0
  have c1 := h.c1
  have c2 := h.c2
  have H : Hid (Win w g I T B) := h
  have ht : (bits BinOp.and IntKind.u64 (B : Int) (IntKind.u64.wrap (2 ^ (s % 64))) != 0) = true := (test_bit hB s).trans hbit
  clear h hbit
  go_enter Trym.func10, Trym.ntmps10
  go_wp2
  go_ret
  exact ⟨rfl, H.out, Below.refl _ _⟩

set_option maxHeartbeats 400000 in
theorem take_low (g I T B s : Nat) (w : World) (h : Win w g I T B) (h1 : s ≤ T) (h2 : T - s < 64) (hT : T < 18446744073709551616) (hB : B < 18446744073709551616) (hbit : B.testBit (s % 64) = false) :
    Calls Trym.prog 10 #[.pointer (some ⟨g, 0, none⟩), .int .u64 (I : Int), .int .u64 (s : Int)] w (Took w g true I T (put B s)) := by
  have c0 := h.c0
  have c1 := h.c1
  have c2 := h.c2
  have f2 := h.fr 2
  have H : Hid (Win w g I T B) := h
  have ht : (bits BinOp.and IntKind.u64 (B : Int) (IntKind.u64.wrap (2 ^ (s % 64))) != 0) = false := (test_bit hB s).trans hbit
  have Ho : Hid (bits BinOp.or IntKind.u64 (B : Int) (IntKind.u64.wrap (2 ^ (s % 64))) = ((put B s : Nat) : Int)) := or_bit hB s
  clear h hbit
  go_enter Trym.func10, Trym.ntmps10
  go_wp2
  go_ret
  rw [Ho.out]
  exact ⟨rfl, H.out.set2 _, below_cell (Below.refl _ _) _ _⟩
end Go.Proofs.Qxb6001611aMods
