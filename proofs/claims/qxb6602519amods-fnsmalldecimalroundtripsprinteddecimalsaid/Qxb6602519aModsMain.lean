import Derived.Test.Qxb6602519aModsPrint
namespace Go.Proofs.Qxb6602519aMods
open Go.RowKit

theorem zzreads_back (neg : Bool) (c k L : Nat) (w : World) (hkL : k + 1 ≤ L) (hL : L ≤ 18) (hc : c ≤ 999999999999999999) (hcL : c < 10 ^ L) :
    Calls Trym.prog 8 #[.string (strOfNums (text neg c k L L))] w fun e w' => e = .returned (.tuple #[.int .i64 (c : Int), .int .i32 (-(k : Int)), .bool true]) ∧ w = w' := by
  have H := reads_back neg c k L w hkL hL hc hcL
  obtain ⟨s, hs⟩ : ∃ s, strOfNums (text neg c k L L) = s := ⟨_, rfl⟩
  rw [hs] at H ⊢
  have HH : Hid (Calls Trym.prog 13 #[.string s] w fun e w' => e = .returned (.tuple #[.int .i64 (c : Int), .int .i32 (-(k : Int)), .bool true]) ∧ w = w') := H
  clear H hs hcL
  go_enter Trym.func8, Trym.ntmps8
  go_wp2_with fail
  refine HH.out.mono ?_
  rintro e w' ⟨rfl, rfl⟩
  go_wp2
  go_ret3
  exact ⟨rfl, rfl⟩

def Good (w : World) (e : Ending) (w' : World) : Prop := e = .returned (.bool true) ∧ Below w.heap.size w w'

set_option maxRecDepth 100000 in
set_option maxHeartbeats 800000 in
theorem law_in (c k : Nat) (neg : Bool) (w : World) (hc : c ≤ 999999999999999999) (hk : k ≤ 17) :
    Calls Trym.prog 4 #[.int .i64 (c : Int), .int .i32 (-(k : Int)), .bool neg] w (Good w) := by
  have d1 : decide ((c : Int) < 0) = false := decide_eq_false (by omega)
  have d2 : decide ((0 : Int) < -(k : Int)) = false := decide_eq_false (by omega)
  go_enter Trym.func4, Trym.ntmps4
  go_wp2_with fail
  refine (print_any c k neg w hc hk).mono ?_
  rintro e w1 ⟨L, hkL, hL, hcL, rfl, hb⟩
  have HC : Hid (Calls Trym.prog 8 #[.string (strOfNums (text neg c k L L))] w1 fun e w' => e = .returned (.tuple #[.int .i64 (c : Int), .int .i32 (-(k : Int)), .bool true]) ∧ w1 = w') := zzreads_back neg c k L w1 hkL hL hc hcL
  have HB : Hid (Below w.heap.size w w1) := hb
  obtain ⟨s, hs⟩ : ∃ s, strOfNums (text neg c k L L) = s := ⟨_, rfl⟩
  rw [hs] at HC ⊢
  clear hcL hb hs
  go_wp2_with fail
  refine HC.out.mono ?_
  rintro e w' ⟨rfl, rfl⟩
  go_wp2
  go_ret
  exact ⟨rfl, HB.out⟩

set_option maxRecDepth 100000 in
set_option maxHeartbeats 800000 in
theorem law_any (a0 a1 : Int) (neg : Bool) (w : World) :
    Calls Trym.prog 4 #[.int .i64 a0, .int .i32 a1, .bool neg] w (Good w) := by
  by_cases h1 : a0 < 0
  · go_enter Trym.func4, Trym.ntmps4
    go_wp2
    go_ret
    exact ⟨rfl, Below.refl _ _⟩
  have d1 : decide (a0 < 0) = false := decide_eq_false h1
  by_cases h2 : 999999999999999999 < a0
  · go_enter Trym.func4, Trym.ntmps4
    go_wp2
    go_ret
    exact ⟨rfl, Below.refl _ _⟩
  by_cases h3 : 0 < a1
  · go_enter Trym.func4, Trym.ntmps4
    go_wp2
    go_ret
    exact ⟨rfl, Below.refl _ _⟩
  have d3 : decide (0 < a1) = false := decide_eq_false h3
  by_cases h4 : a1 < -17
  · go_enter Trym.func4, Trym.ntmps4
    go_wp2
    go_ret
    exact ⟨rfl, Below.refl _ _⟩
  obtain ⟨c, rfl⟩ : ∃ c : Nat, a0 = (c : Int) := ⟨a0.toNat, by omega⟩
  obtain ⟨k, rfl⟩ : ∃ k : Nat, a1 = -(k : Int) := ⟨(-a1).toNat, by omega⟩
  exact law_in c k neg w (by omega) (by omega)
end Go.Proofs.Qxb6602519aMods
