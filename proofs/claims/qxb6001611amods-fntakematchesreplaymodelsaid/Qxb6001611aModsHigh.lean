import Derived.Test.Qxb6001611aModsTake
namespace Go.Proofs.Qxb6001611aMods
open Go.RowKit

set_option maxRecDepth 100000 in
set_option maxHeartbeats 1600000 in
theorem take_high (g I T B s : Nat) (w : World) (h : Win w g I T B) (h1 : T < s) (hs : s ≤ 18446744073709551551) (hB : B < 18446744073709551616) :
    Calls Trym.prog 10 #[.pointer (some ⟨g, 0, none⟩), .int .u64 (I : Int), .int .u64 (s : Int)] w (Took w g true I s (put (clrTo T B (min (s - T) 64)) s)) := by
  have c0 := h.c0
  have c1 := h.c1
  have H : Hid (Win w g I T B) := h
  have HB : Hid (B < 18446744073709551616) := hB
  clear h hB
  go_enter Trym.func10, Trym.ntmps10
  go_wp2
  go_loopg [7] 64 (fun gh n wr => ∃ m : Nat, m ≤ min (s - T) 64 ∧ n = .int .u64 ((T + 1 + m : Nat) : Int) ∧ gh = 64 - m ∧ Win wr g I T (clrTo T B m) ∧ Below g w wr)
  case atStart => exact ⟨0, Nat.zero_le _, rfl, rfl, H.out, Below.refl _ _⟩
  case round =>
    clear c0 c1
    obtain ⟨m, hm, rfl, hg, hw, hb⟩ := hrel
    have c1 := hw.c1
    have c2 := hw.c2
    have f2 := hw.fr 2
    have Hg : Hid (gk = 64 - m) := hg
    have HW : Hid (Win wr g I T (clrTo T B m) ∧ Below g w wr) := ⟨hw, hb⟩
    have hC := clrTo_lt HB.out T m
    obtain ⟨C, hCe⟩ : ∃ C, clrTo T B m = C := ⟨_, rfl⟩
    rw [hCe] at c2 hC
    have HC : Hid (clrTo T B m = C) := hCe
    clear hg hw hb hCe
    by_cases hlt : m < min (s - T) 64
    · have t1 : ((T + 1 + m : Nat) : Int) ≤ (s : Int) := by omega
      have t2 : ((T + 1 + m : Nat) : Int) ≤ (T : Int) + 64 := by omega
      have Ha : Hid (bits BinOp.andNot IntKind.u64 (C : Int) (IntKind.u64.wrap (2 ^ ((T + 1 + m) % 64))) = ((clrTo T B (m + 1) : Nat) : Int)) := by
        show _ = _
        rw [andNot_bit hC, ← HC.out]
        rfl
      go_wp2
      go_region
      all_goals go_wp2
      go_roundg (64 - (m + 1))
      case measure => rw [Hg.out]; omega
      case rel =>
        rw [Ha.out]
        exact ⟨m + 1, hlt, by go_num, rfl, HW.out.1.set2 _, below_cell HW.out.2.drew _ _⟩
    · have hme : min (s - T) 64 = m := by omega
      rw [hme]
      have hbit : C.testBit (s % 64) = false := by
        rw [← HC.out, ← hme]
        exact clear_new h1 s h1 (Nat.le_refl _)
      have ht : (bits BinOp.and IntKind.u64 (C : Int) (IntKind.u64.wrap (2 ^ (s % 64))) != 0) = false := (test_bit hC s).trans hbit
      have Ho : Hid (bits BinOp.or IntKind.u64 (C : Int) (IntKind.u64.wrap (2 ^ (s % 64))) = ((put C s : Nat) : Int)) := or_bit hC s
      have f1 := HW.out.1.fr 1
      clear hbit
      by_cases hq : T + 1 + m ≤ s
      · have t1 : ((T + 1 + m : Nat) : Int) ≤ (s : Int) := by omega
        have t2 : ¬ ((T + 1 + m : Nat) : Int) ≤ (T : Int) + 64 := by omega
        go_wp2
        go_ret
        rw [Ho.out, ← HC.out]
        exact ⟨rfl, (HW.out.1.set1 s).set2 _, below_cell (below_cell HW.out.2 _ _) _ _⟩
      · have t1 : decide (((T + 1 + m : Nat) : Int) ≤ (s : Int)) = false := decide_eq_false (by omega)
        go_wp2
        go_ret
        rw [Ho.out, ← HC.out]
        exact ⟨rfl, (HW.out.1.set1 s).set2 _, below_cell (below_cell HW.out.2 _ _) _ _⟩

/-- What ZZTake leaves. -/
def ZTook (w : World) (ok : Bool) (I T B : Nat) (e : Ending) (w' : World) : Prop := e = .returned (.tuple #[.bool ok, .int .u64 (I : Int), .int .u64 (T : Int), .int .u64 (B : Int)]) ∧ Below w.heap.size w w'

set_option maxRecDepth 100000 in
set_option maxHeartbeats 1600000 in
theorem zztake (I T B i s : Nat) (ok : Bool) (I' T' B' : Nat) (w : World)
    (hcall : ∀ (g : Nat) (w : World), Win w g I T B → Calls Trym.prog 10 #[.pointer (some ⟨g, 0, none⟩), .int .u64 (i : Int), .int .u64 (s : Int)] w (Took w g ok I' T' B')) :
    Calls Trym.prog 9 #[.int .u64 (I : Int), .int .u64 (T : Int), .int .u64 (B : Int), .int .u64 (i : Int), .int .u64 (s : Int)] w (ZTook w ok I' T' B') := by
  have HC : Hid (∀ (g : Nat) (w : World), Win w g I T B → Calls Trym.prog 10 #[.pointer (some ⟨g, 0, none⟩), .int .u64 (i : Int), .int .u64 (s : Int)] w (Took w g ok I' T' B')) := hcall
  clear hcall
  go_enter Trym.func9, Trym.ntmps9
  go_wp2_with fail
  refine (HC.out w.heap.size _ (heap_alloc_new w _)).mono ?_
  rintro e w1 ⟨rfl, hw, hb⟩
  have c0 := hw.c0
  have c1 := hw.c1
  have c2 := hw.c2
  have HB : Hid (Below w.heap.size w w1) := ((Below.refl _ _).alloc (Nat.le_refl _) _).trans hb
  clear hw hb
  go_wp2
  go_quiet (fail)
  go_wp2
  exact bodyPost_ret (v := .tuple #[.bool ok, .int .u64 (I' : Int), .int .u64 (T' : Int), .int .u64 (B' : Int)]) (by simp [results, Trym.results9, go_sem]) rfl ⟨rfl, HB.out.trans ⟨rfl, rfl, rfl, Nat.le_refl _, fun _ _ => rfl⟩⟩
end Go.Proofs.Qxb6001611aMods
