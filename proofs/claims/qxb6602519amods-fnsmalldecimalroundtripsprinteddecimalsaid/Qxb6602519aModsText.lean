import Derived.Test.Qxb6602519aModsSmall
import Derived.Laws.BytesArg
namespace Go.Proofs.Qxb6602519aMods
open Go.RowKit

/-- The digits from the least on. -/
def rv (c : Nat) : Nat → List Int
  | 0 => []
  | j + 1 => rv c j ++ [48 + (dg c j : Int)]
theorem rv_len (c : Nat) : ∀ j, (rv c j).length = j
  | 0 => rfl
  | j + 1 => by simp [rv, rv_len c j]
theorem rv_at (c : Nat) : ∀ j i, i < j → (rv c j)[i]? = some (48 + (dg c i : Int))
  | 0, i, h => absurd h (by omega)
  | j + 1, i, h => by
    simp only [rv]
    by_cases hi : i < j
    · rw [List.getElem?_append_left (by rw [rv_len]; exact hi)]
      exact rv_at c j i hi
    · obtain rfl : i = j := by omega
      rw [List.getElem?_append_right (by rw [rv_len]; exact Nat.le_refl _), rv_len, Nat.sub_self]
      rfl

/-- The printed text behind the sign: m digits of L, the point ahead of the last k. -/
def body (c k L : Nat) : Nat → List Int
  | 0 => []
  | m + 1 => body c k L m ++ (if 0 < k ∧ L - 1 - m = k - 1 then [46] else []) ++ [48 + (dg c (L - 1 - m) : Int)]
theorem body_len (c k L : Nat) (hk : k < L) : ∀ m, m ≤ L → (body c k L m).length = m + if 0 < k ∧ L - k < m then 1 else 0
  | 0, _ => by simp [body]
  | m + 1, h => by
    simp only [body, List.length_append, body_len c k L hk m (by omega), List.length_singleton]
    by_cases h1 : 0 < k
    · by_cases h2 : L - k < m
      · rw [if_pos ⟨h1, h2⟩, if_neg (by omega), if_pos ⟨h1, by omega⟩]
        simp only [List.length_nil]
      · by_cases h3 : L - k = m
        · rw [if_neg (by omega), if_pos ⟨h1, by omega⟩, if_pos ⟨h1, by omega⟩]
          simp only [List.length_singleton]
        · rw [if_neg (by omega), if_neg (by omega), if_neg (by omega)]
          simp only [List.length_nil]
    · rw [if_neg (by omega), if_neg (by omega), if_neg (by omega)]
      simp only [List.length_nil]
theorem body_dig (c k L : Nat) (hk : k < L) : ∀ m, m ≤ L → ∀ j, j < m → (body c k L m)[j + if 0 < k ∧ L - k ≤ j then 1 else 0]? = some (48 + (dg c (L - 1 - j) : Int))
  | 0, _, j, h => absurd h (by omega)
  | m + 1, hm, j, h => by
    have hl := body_len c k L hk m (by omega)
    simp only [body]
    by_cases hjm : j < m
    · rw [List.append_assoc, List.getElem?_append_left]
      · exact body_dig c k L hk m (by omega) j hjm
      · rw [hl]
        split <;> split <;> omega
    · obtain rfl : j = m := by omega
      have hl2 : (body c k L j ++ (if 0 < k ∧ L - 1 - j = k - 1 then [46] else [])).length = j + if 0 < k ∧ L - k ≤ j then 1 else 0 := by
        rw [List.length_append, hl]
        by_cases h1 : 0 < k ∧ L - 1 - j = k - 1
        · rw [if_pos h1, if_neg (by omega), if_pos (by omega)]
          simp
        · rw [if_neg h1]
          by_cases h2 : 0 < k ∧ L - k < j
          · rw [if_pos h2, if_pos (by omega)]
            simp
          · rw [if_neg h2, if_neg (by omega)]
            simp
      rw [List.getElem?_append_right (by rw [hl2]; exact Nat.le_refl _), hl2, Nat.sub_self]
      rfl
theorem body_dot (c k L : Nat) (hk : k < L) (h0 : 0 < k) : ∀ m, m ≤ L → L - k < m → (body c k L m)[L - k]? = some 46
  | 0, _, h => absurd h (by omega)
  | m + 1, hm, h => by
    have hl := body_len c k L hk m (by omega)
    simp only [body]
    by_cases h2 : L - k < m
    · rw [List.append_assoc, List.getElem?_append_left]
      · exact body_dot c k L hk h0 m (by omega) h2
      · rw [hl, if_pos ⟨h0, h2⟩]
        omega
    · rw [if_pos ⟨h0, by omega⟩, List.append_assoc, List.getElem?_append_right (by rw [hl, if_neg (by omega)]; omega), hl, if_neg (by omega), show L - k - (m + 0) = 0 from by omega]
      rfl
/-- The sign. -/
def sign (neg : Bool) : List Int := if neg then [45] else []
def text (neg : Bool) (c k L m : Nat) : List Int := sign neg ++ body c k L m
theorem text_len (neg : Bool) (c k L : Nat) (hk : k < L) (m : Nat) (hm : m ≤ L) : (text neg c k L m).length = (if neg then 1 else 0) + (m + if 0 < k ∧ L - k < m then 1 else 0) := by
  unfold text sign
  rw [List.length_append, body_len c k L hk m hm]
  cases neg <;> rfl
theorem text_le (neg : Bool) (c k L : Nat) (hk : k < L) (hL : L ≤ 18) (m : Nat) (hm : m ≤ L) : (text neg c k L m).length ≤ 20 := by
  rw [text_len neg c k L hk m hm]
  split <;> split <;> omega
theorem text_byte (neg : Bool) (c k L : Nat) : ∀ m, ∀ x ∈ text neg c k L m, 0 ≤ x ∧ x ≤ 255 := by
  have hb : ∀ m, ∀ x ∈ body c k L m, 0 ≤ x ∧ x ≤ 255 := by
    intro m
    induction m with
    | zero => simp [body]
    | succ m ih =>
      intro x hx
      simp only [body, List.mem_append, List.mem_singleton] at hx
      rcases hx with (hx | hx) | hx
      · exact ih x hx
      · split at hx
        · simp at hx; omega
        · simp at hx
      · have := dg_lt c (L - 1 - m); omega
  intro m x hx
  unfold text sign at hx
  rcases List.mem_append.1 hx with hx | hx
  · cases neg
    · simp at hx
    · simp at hx; omega
  · exact hb m x hx

theorem size_str (xs : List Int) : (strOfNums xs).size = xs.length := by simp [strOfNums, ByteArray.size]
theorem run_byte (w : World) (xs : List Int) (hb : ∀ x ∈ xs, 0 ≤ x ∧ x ≤ 255) (i : Nat) (hi : i < (strOfNums xs).size) :
    (Instr.index 9 (.string (strOfNums xs)) (.int .i64 (i : Int))).run Trym.prog w = .ok (.int .u8 (((xs.getD i 0).toNat : Nat) : Int)) w := by
  have hil : i < xs.length := by rw [← size_str]; exact hi
  rw [run_index_string w 9 (strOfNums xs) .i64 i Trym.underlying9, dif_pos ⟨by omega, by omega⟩]
  have hx := hb xs[i] (List.getElem_mem hil)
  congr 2
  have e : ((strOfNums xs)[((i : Nat) : Int).toNat]'(by simpa using hi)).toNat = xs[i].toNat := by
    simp [strOfNums, ByteArray.getElem_eq_getElem_data]
    omega
  rw [e, List.getD, List.getElem?_eq_getElem hil]
  rfl

set_option maxRecDepth 100000 in
set_option maxHeartbeats 800000 in
/-- smallDecimal reads the printed text back. -/
theorem reads_back (neg : Bool) (c k L : Nat) (w : World) (hkL : k + 1 ≤ L) (hL : L ≤ 18) (hc : c ≤ 999999999999999999) (hcL : c < 10 ^ L) :
    Calls Trym.prog 13 #[.string (strOfNums (text neg c k L L))] w fun e w' => e = .returned (.tuple #[.int .i64 (c : Int), .int .i32 (-(k : Int)), .bool true]) ∧ w = w' := by
  have hlen := text_len neg c k L hkL L (Nat.le_refl _)
  have hs : (sign neg).length = if neg then 1 else 0 := by cases neg <;> rfl
  have hat : ∀ r, (text neg c k L L)[(if neg then 1 else 0) + r]? = (body c k L L)[r]? := by
    intro r
    unfold text
    rw [List.getElem?_append_right (by rw [hs]; omega), hs, Nat.add_sub_cancel_left]
  refine small_any (strOfNums (text neg c k L L)) (if neg then 1 else 0) L k c (fun i => ((text neg c k L L).getD i 0).toNat) w (by split <;> omega) hkL hL hc hcL (fun i hi w => run_byte w _ (text_byte neg c k L L) i hi) ?_ ?_ ?_ ?_
  · rw [size_str, hlen]
    have e : (if 0 < k ∧ L - k < L then 1 else 0) = (if 0 < k then 1 else 0) := by
      by_cases h0 : 0 < k
      · rw [if_pos ⟨h0, by omega⟩, if_pos h0]
      · rw [if_neg (by omega), if_neg h0]
    rw [e]
    omega
  · intro h
    cases neg
    · simp at h
    · rfl
  · intro m hm
    have e := body_dig c k L hkL L (Nat.le_refl _) m hm
    have e2 := hat (m + if 0 < k ∧ L - k ≤ m then 1 else 0)
    rw [e, ← Nat.add_assoc] at e2
    show ((text neg c k L L).getD _ 0).toNat = _
    rw [List.getD, e2]
    simp
    omega
  · intro h
    have e := body_dot c k L hkL h L (Nat.le_refl _) (by omega)
    have e2 := hat (L - k)
    rw [e] at e2
    show ((text neg c k L L).getD _ 0).toNat = _
    rw [List.getD, e2]
    rfl
end Go.Proofs.Qxb6602519aMods
