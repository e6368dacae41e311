import Derived.Test.Qxb6602519aModsRows
import Derived.WalkKit
import Derived.ProofKit
import Derived.Below
import Derived.Deep.LoopGhost
import Derived.WalkSpells
import Derived.WalkLawsBesides
namespace Go.Proofs.Qxb6602519aMods
open Go.RowKit

/-- Digit i of c. -/
def dg (c i : Nat) : Nat := c / 10 ^ i % 10
theorem dg_lt (c i : Nat) : dg c i < 10 := Nat.mod_lt _ (by decide)
theorem head_step (c L m : Nat) (hm : m < L) : c / 10 ^ (L - m) * 10 + dg c (L - 1 - m) = c / 10 ^ (L - (m + 1)) := by
  unfold dg
  have e : 10 ^ (L - m) = 10 ^ (L - (m + 1)) * 10 := by rw [← Nat.pow_succ]; congr 1; omega
  rw [show L - 1 - m = L - (m + 1) from by omega, e, ← Nat.div_div_eq_div_mul]
  omega
theorem head_le (c j : Nat) : c / 10 ^ j ≤ c := Nat.div_le_self _ _

theorem ret3 {a b c d : Int} (h1 : a = b) (h2 : c = d) : Ending.returned (.tuple #[.int .i64 a, .int .i32 c, .bool true]) = .returned (.tuple #[.int .i64 b, .int .i32 d, .bool true]) := by rw [h1, h2]

set_option maxRecDepth 100000 in
set_option maxHeartbeats 1600000 in
theorem small_any (s : ByteArray) (st L k c : Nat) (bt : Nat → Nat) (w : World) (hst : st ≤ 1) (hkL : k + 1 ≤ L) (hL : L ≤ 18) (hc : c ≤ 999999999999999999) (hcL : c < 10 ^ L)
    (hrun : ∀ i, i < s.size → ∀ w, (Instr.index 9 (.string s) (.int .i64 (i : Int))).run Trym.prog w = .ok (.int .u8 (bt i : Int)) w)
    (hsz : s.size = st + L + if 0 < k then 1 else 0) (hneg : st = 1 → bt 0 = 45)
    (hdig : ∀ m, m < L → bt (st + m + if 0 < k ∧ L - k ≤ m then 1 else 0) = 48 + dg c (L - 1 - m)) (hdot : 0 < k → bt (st + (L - k)) = 46) :
    Calls Trym.prog 13 #[.string s] w fun e w' => e = .returned (.tuple #[.int .i64 (c : Int), .int .i32 (-(k : Int)), .bool true]) ∧ w = w' := by
  have HR : Hid (∀ i, i < s.size → ∀ w, (Instr.index 9 (.string s) (.int .i64 (i : Int))).run Trym.prog w = .ok (.int .u8 (bt i : Int)) w) := hrun
  have HZ : Hid (s.size = st + L + if 0 < k then 1 else 0) := hsz
  have HN : Hid (st = 1 → bt 0 = 45) := hneg
  have HD : Hid (∀ m, m < L → bt (st + m + if 0 < k ∧ L - k ≤ m then 1 else 0) = 48 + dg c (L - 1 - m)) := hdig
  have HP : Hid (0 < k → bt (st + (L - k)) = 46) := hdot
  have HC : Hid (c < 10 ^ L) := hcL
  have hz1 : 1 ≤ s.size := by omega
  have hz2 : s.size ≤ 20 := by split at hsz <;> omega
  have hr0 : ∀ w, (Instr.index 9 (.string s) (.int .i64 0)).run Trym.prog w = .ok (.int .u8 (bt 0 : Int)) w := hrun 0 (by omega)
  have hne : s.toList.isEmpty = false := by
    cases hq : s.toList.isEmpty
    · rfl
    · exfalso
      rw [ByteArray.toList_eq] at hq
      have e := congrArg List.length (List.isEmpty_iff.1 hq)
      rw [Array.length_toList] at e
      have e2 : s.data.size = s.size := rfl
      rw [e2] at e
      simp only [List.length_nil] at e
      omega
  clear hrun hsz hneg hdig hdot hcL
  have hLk : 1 ≤ L - k := by omega
  rcases (show st = 1 ∨ st = 0 from by omega) with hs1 | hs1
  · have h0 := HN.out hs1
    rw [h0] at hr0
    have hr0' : ∀ w, (Instr.index 9 (.string s) (.int .i64 0)).run Trym.prog w = .ok (.int .u8 45) w := hr0
    have HS : Hid (Value.int .i64 1 = .int .i64 ((st + 0 + 0 : Nat) : Int)) := by rw [hs1]; rfl
    clear hr0 h0 hs1
    go_enter Trym.func13, Trym.ntmps13
    go_wp2
    go_loopg [5, 6, 7, 8] (s.size - (st + 0 + 0)) (fun g i co di po wr => ∃ m d : Nat, ∃ p : Int, m ≤ L ∧ d ≤ 1 ∧ (d = 0 → (k = 0 ∨ m ≤ L - k) ∧ p = -1) ∧ (d = 1 → 0 < k ∧ L - k ≤ m ∧ p = ((st + (L - k) : Nat) : Int)) ∧
      i = .int .i64 ((st + m + d : Nat) : Int) ∧ co = .int .i64 ((c / 10 ^ (L - m) : Nat) : Int) ∧ di = .int .i64 (m : Int) ∧ po = .int .i64 p ∧ g = s.size - (st + m + d) ∧ wr = w)
    case atStart => exact ⟨0, 0, -1, by omega, by omega, fun _ => ⟨Or.inr (by omega), rfl⟩, fun h => absurd h (by omega), HS.out, by rw [Nat.sub_zero, Nat.div_eq_of_lt HC.out]; rfl, rfl, rfl, rfl, rfl⟩
    case round =>
      obtain ⟨m, d, p, hmL, hd1, hd0, hdd, rfl, rfl, rfl, rfl, hg, rfl⟩ := hrel
      obtain ⟨j, hj⟩ : ∃ j, st + m + d = j := ⟨_, rfl⟩
      obtain ⟨h, hh⟩ : ∃ h, c / 10 ^ (L - m) = h := ⟨_, rfl⟩
      have HG : Hid (gk = s.size - (st + m + d)) := hg
      have HJ : Hid (st + m + d = j) := hj
      have HH : Hid (c / 10 ^ (L - m) = h) := hh
      have H0 : Hid (d = 0 → (k = 0 ∨ m ≤ L - k) ∧ p = -1) := hd0
      have H1 : Hid (d = 1 → 0 < k ∧ L - k ≤ m ∧ p = ((st + (L - k) : Nat) : Int)) := hdd
      rw [hj, hh]
      clear hj hh hg hd0 hdd
      by_cases hend : j < s.size
      · by_cases hdotq : 0 < k ∧ d = 0 ∧ m = L - k
        · -- the point
          have hx : bt j = 46 := by
            rw [← HJ.out, hdotq.2.1, hdotq.2.2]
            exact HP.out hdotq.1
          have hrx : ∀ w, (Instr.index 9 (.string s) (.int .i64 (j : Int))).run Trym.prog w = .ok (.int .u8 46) w := by
            have := HR.out j hend
            rw [hx] at this
            exact this
          have hp : p = -1 := (H0.out hdotq.2.1).2
          subst hp
          have hm0 : 0 < m := by omega
          have HQ : Hid (0 < k ∧ d = 0 ∧ m = L - k) := hdotq
          clear hx hdotq
          go_wp2
          go_roundg (s.size - (st + m + 1))
          case measure => rw [HG.out]; have e := HJ.out; have e2 := HQ.out; omega
          case rel => exact ⟨m, 1, (j : Int), hmL, by omega, fun h => absurd h (by omega), fun _ => ⟨HQ.out.1, by have e2 := HQ.out; omega, by have e := HJ.out; have e2 := HQ.out; omega⟩, by have e := HJ.out; have e2 := HQ.out; go_num, by rw [HH.out], rfl, rfl, rfl, rfl⟩
        · -- a digit
          have HQ : Hid (¬ (0 < k ∧ d = 0 ∧ m = L - k)) := hdotq
          have hmlt : m < L := by
            have e1 := HZ.out
            have e2 := HJ.out
            have e3 := H0.out
            have e4 := H1.out
            by_cases hk0 : 0 < k
            · rw [if_pos hk0] at e1
              omega
            · rw [if_neg hk0] at e1
              omega
          have hx : bt j = 48 + dg c (L - 1 - m) := by
            have e := HD.out m hmlt
            have e3 := H0.out
            have e4 := H1.out
            have e5 := HQ.out
            by_cases hd' : d = 1
            · rw [if_pos ⟨(e4 hd').1, (e4 hd').2.1⟩] at e
              rw [← HJ.out, hd']
              exact e
            · rw [if_neg (by omega)] at e
              rw [← HJ.out, show d = 0 from by omega]
              exact e
          obtain ⟨y, hy⟩ : ∃ y, dg c (L - 1 - m) = y := ⟨_, rfl⟩
          have hy9 : y ≤ 9 := by rw [← hy]; have := dg_lt c (L - 1 - m); omega
          have hrx : ∀ w, (Instr.index 9 (.string s) (.int .i64 (j : Int))).run Trym.prog w = .ok (.int .u8 (48 + (y : Int))) w := by
            have := HR.out j hend
            rw [hx, hy] at this
            exact this
          have HE : Hid (h * 10 + y = c / 10 ^ (L - (m + 1))) := by
            show _ = _
            rw [← HH.out, ← hy]
            exact head_step c L m hmlt
          have hb : h * 10 + y ≤ 999999999999999999 := by
            rw [HE.out]
            exact Nat.le_trans (head_le _ _) hc
          have hm18 : m < 18 := by omega
          clear hx hy hdotq
          go_wp2
          go_roundg (s.size - (st + (m + 1) + d))
          case measure => rw [HG.out]; have e := HJ.out; omega
          case rel => exact ⟨m + 1, d, p, hmlt, hd1, fun h => ⟨by have e := (H0.out h).1; have e2 := HQ.out; omega, (H0.out h).2⟩, fun h => ⟨(H1.out h).1, by have e := (H1.out h).2.1; omega, (H1.out h).2.2⟩, by have e := HJ.out; go_num, by rw [← HE.out]; go_num, by go_num, rfl, rfl, rfl⟩
      · -- the end
        by_cases hk0 : 0 < k
        · have e : j = st + L + 1 ∧ d = 1 ∧ m = L ∧ s.size = st + L + 1 := by
            have e1 := HZ.out
            have e2 := HJ.out
            have e3 := H0.out
            rw [if_pos hk0] at e1
            omega
          have hp : p = ((st + (L - k) : Nat) : Int) := (H1.out e.2.1).2.2
          subst hp
          have hm1 : 1 ≤ m := by omega
          have hq1 : s.size ≤ st + (L - k) + 1 + k := by omega
          have hq2 : st + (L - k) + 1 + k ≤ s.size := by omega
          have HE : Hid (h = c) := by
            show _ = _
            rw [← HH.out, e.2.2.1, Nat.sub_self, Nat.pow_zero, Nat.div_one]
          have hpe : ((st : Int) + ((L - k : Nat) : Int) == (s.size : Int) - 1) = false := beq_eq_false_iff_ne.2 (by omega)
          have HK : Hid (-((s.size : Int) - ((st : Int) + ((L - k : Nat) : Int)) - 1) = -(k : Int)) := by
            show _ = _
            omega
          clear e
          go_wp2
          go_ret3
          exact ⟨ret3 (by rw [HE.out]) HK.out, rfl⟩
        · have e : j = st + L ∧ d = 0 ∧ m = L := by
            have e1 := HZ.out
            have e2 := HJ.out
            have e3 := H1.out
            rw [if_neg hk0] at e1
            omega
          have hp : p = -1 := (H0.out e.2.1).2
          subst hp
          have hm1 : 1 ≤ m := by omega
          have HE : Hid (h = c) := by
            show _ = _
            rw [← HH.out, e.2.2, Nat.sub_self, Nat.pow_zero, Nat.div_one]
          have hpe : ((-1 : Int) == (s.size : Int) - 1) = false := beq_eq_false_iff_ne.2 (by omega)
          have HK : Hid ((0 : Int) = -(k : Int)) := by
            show _ = _
            omega
          clear e
          go_wp2
          go_ret3
          exact ⟨ret3 (by rw [HE.out]) HK.out, rfl⟩
  · have h0 : bt 0 = 48 + dg c (L - 1) := by
      have e := HD.out 0 (by omega)
      rw [if_neg (by omega), hs1] at e
      exact e
    rw [h0] at hr0
    have hy9 := dg_lt c (L - 1)
    obtain ⟨y0, hy0⟩ : ∃ y0, dg c (L - 1) = y0 := ⟨_, rfl⟩
    rw [hy0] at hr0 hy9
    have hr0' : ∀ w, (Instr.index 9 (.string s) (.int .i64 0)).run Trym.prog w = .ok (.int .u8 (48 + (y0 : Int))) w := hr0
    have hne45 : (48 + (y0 : Int) == 45) = false := beq_eq_false_iff_ne.2 (by omega)
    have HS : Hid (Value.int .i64 0 = .int .i64 ((st + 0 + 0 : Nat) : Int)) := by rw [hs1]; rfl
    clear hr0 h0 hs1 hy0
    go_enter Trym.func13, Trym.ntmps13
    go_wp2
    go_loopg [5, 6, 7, 8] (s.size - (st + 0 + 0)) (fun g i co di po wr => ∃ m d : Nat, ∃ p : Int, m ≤ L ∧ d ≤ 1 ∧ (d = 0 → (k = 0 ∨ m ≤ L - k) ∧ p = -1) ∧ (d = 1 → 0 < k ∧ L - k ≤ m ∧ p = ((st + (L - k) : Nat) : Int)) ∧
      i = .int .i64 ((st + m + d : Nat) : Int) ∧ co = .int .i64 ((c / 10 ^ (L - m) : Nat) : Int) ∧ di = .int .i64 (m : Int) ∧ po = .int .i64 p ∧ g = s.size - (st + m + d) ∧ wr = w)
    case atStart => exact ⟨0, 0, -1, by omega, by omega, fun _ => ⟨Or.inr (by omega), rfl⟩, fun h => absurd h (by omega), HS.out, by rw [Nat.sub_zero, Nat.div_eq_of_lt HC.out]; rfl, rfl, rfl, rfl, rfl⟩
    case round =>
      obtain ⟨m, d, p, hmL, hd1, hd0, hdd, rfl, rfl, rfl, rfl, hg, rfl⟩ := hrel
      obtain ⟨j, hj⟩ : ∃ j, st + m + d = j := ⟨_, rfl⟩
      obtain ⟨h, hh⟩ : ∃ h, c / 10 ^ (L - m) = h := ⟨_, rfl⟩
      have HG : Hid (gk = s.size - (st + m + d)) := hg
      have HJ : Hid (st + m + d = j) := hj
      have HH : Hid (c / 10 ^ (L - m) = h) := hh
      have H0 : Hid (d = 0 → (k = 0 ∨ m ≤ L - k) ∧ p = -1) := hd0
      have H1 : Hid (d = 1 → 0 < k ∧ L - k ≤ m ∧ p = ((st + (L - k) : Nat) : Int)) := hdd
      rw [hj, hh]
      clear hj hh hg hd0 hdd
      by_cases hend : j < s.size
      · by_cases hdotq : 0 < k ∧ d = 0 ∧ m = L - k
        · -- the point
          have hx : bt j = 46 := by
            rw [← HJ.out, hdotq.2.1, hdotq.2.2]
            exact HP.out hdotq.1
          have hrx : ∀ w, (Instr.index 9 (.string s) (.int .i64 (j : Int))).run Trym.prog w = .ok (.int .u8 46) w := by
            have := HR.out j hend
            rw [hx] at this
            exact this
          have hp : p = -1 := (H0.out hdotq.2.1).2
          subst hp
          have hm0 : 0 < m := by omega
          have HQ : Hid (0 < k ∧ d = 0 ∧ m = L - k) := hdotq
          clear hx hdotq
          go_wp2
          go_roundg (s.size - (st + m + 1))
          case measure => rw [HG.out]; have e := HJ.out; have e2 := HQ.out; omega
          case rel => exact ⟨m, 1, (j : Int), hmL, by omega, fun h => absurd h (by omega), fun _ => ⟨HQ.out.1, by have e2 := HQ.out; omega, by have e := HJ.out; have e2 := HQ.out; omega⟩, by have e := HJ.out; have e2 := HQ.out; go_num, by rw [HH.out], rfl, rfl, rfl, rfl⟩
        · -- a digit
          have HQ : Hid (¬ (0 < k ∧ d = 0 ∧ m = L - k)) := hdotq
          have hmlt : m < L := by
            have e1 := HZ.out
            have e2 := HJ.out
            have e3 := H0.out
            have e4 := H1.out
            by_cases hk0 : 0 < k
            · rw [if_pos hk0] at e1
              omega
            · rw [if_neg hk0] at e1
              omega
          have hx : bt j = 48 + dg c (L - 1 - m) := by
            have e := HD.out m hmlt
            have e3 := H0.out
            have e4 := H1.out
            have e5 := HQ.out
            by_cases hd' : d = 1
            · rw [if_pos ⟨(e4 hd').1, (e4 hd').2.1⟩] at e
              rw [← HJ.out, hd']
              exact e
            · rw [if_neg (by omega)] at e
              rw [← HJ.out, show d = 0 from by omega]
              exact e
          obtain ⟨y, hy⟩ : ∃ y, dg c (L - 1 - m) = y := ⟨_, rfl⟩
          have hy9 : y ≤ 9 := by rw [← hy]; have := dg_lt c (L - 1 - m); omega
          have hrx : ∀ w, (Instr.index 9 (.string s) (.int .i64 (j : Int))).run Trym.prog w = .ok (.int .u8 (48 + (y : Int))) w := by
            have := HR.out j hend
            rw [hx, hy] at this
            exact this
          have HE : Hid (h * 10 + y = c / 10 ^ (L - (m + 1))) := by
            show _ = _
            rw [← HH.out, ← hy]
            exact head_step c L m hmlt
          have hb : h * 10 + y ≤ 999999999999999999 := by
            rw [HE.out]
            exact Nat.le_trans (head_le _ _) hc
          have hm18 : m < 18 := by omega
          clear hx hy hdotq
          go_wp2
          go_roundg (s.size - (st + (m + 1) + d))
          case measure => rw [HG.out]; have e := HJ.out; omega
          case rel => exact ⟨m + 1, d, p, hmlt, hd1, fun h => ⟨by have e := (H0.out h).1; have e2 := HQ.out; omega, (H0.out h).2⟩, fun h => ⟨(H1.out h).1, by have e := (H1.out h).2.1; omega, (H1.out h).2.2⟩, by have e := HJ.out; go_num, by rw [← HE.out]; go_num, by go_num, rfl, rfl, rfl⟩
      · -- the end
        by_cases hk0 : 0 < k
        · have e : j = st + L + 1 ∧ d = 1 ∧ m = L ∧ s.size = st + L + 1 := by
            have e1 := HZ.out
            have e2 := HJ.out
            have e3 := H0.out
            rw [if_pos hk0] at e1
            omega
          have hp : p = ((st + (L - k) : Nat) : Int) := (H1.out e.2.1).2.2
          subst hp
          have hm1 : 1 ≤ m := by omega
          have hq1 : s.size ≤ st + (L - k) + 1 + k := by omega
          have hq2 : st + (L - k) + 1 + k ≤ s.size := by omega
          have HE : Hid (h = c) := by
            show _ = _
            rw [← HH.out, e.2.2.1, Nat.sub_self, Nat.pow_zero, Nat.div_one]
          have hpe : ((st : Int) + ((L - k : Nat) : Int) == (s.size : Int) - 1) = false := beq_eq_false_iff_ne.2 (by omega)
          have HK : Hid (-((s.size : Int) - ((st : Int) + ((L - k : Nat) : Int)) - 1) = -(k : Int)) := by
            show _ = _
            omega
          clear e
          go_wp2
          go_ret3
          exact ⟨ret3 (by rw [HE.out]) HK.out, rfl⟩
        · have e : j = st + L ∧ d = 0 ∧ m = L := by
            have e1 := HZ.out
            have e2 := HJ.out
            have e3 := H1.out
            rw [if_neg hk0] at e1
            omega
          have hp : p = -1 := (H0.out e.2.1).2
          subst hp
          have hm1 : 1 ≤ m := by omega
          have HE : Hid (h = c) := by
            show _ = _
            rw [← HH.out, e.2.2, Nat.sub_self, Nat.pow_zero, Nat.div_one]
          have hpe : ((-1 : Int) == (s.size : Int) - 1) = false := beq_eq_false_iff_ne.2 (by omega)
          have HK : Hid ((0 : Int) = -(k : Int)) := by
            show _ = _
            omega
          clear e
          go_wp2
          go_ret3
          exact ⟨ret3 (by rw [HE.out]) HK.out, rfl⟩
end Go.Proofs.Qxb6602519aMods
