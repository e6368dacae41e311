import Derived.Test.Qxb6602519aModsText
namespace Go.Proofs.Qxb6602519aMods
open Go.RowKit

theorem info5 : (Trym.prog.info? 5).map (fun i => (i.zero, i.size, i.bytes)) = some (some (.int .u8 0), 1, 1) := by kernel_rfl

/-- A slice of n bytes of the call's own, at the head of block g, of capacity cap. -/
def Owns (w : World) (base g cap n : Nat) (xs : List Int) : Prop := xs.length = n ∧ w.ownsRow base 5 1 (.slice (some ⟨g, 0, none⟩) n cap) n (xs.map (Value.int .u8))
theorem Owns.snoc {w w' : World} {base g cap n : Nat} {xs : List Int} {x : Int} (h0 : Owns w base g cap n xs) (h : w'.ownsRow base 5 1 (.slice (some ⟨g, 0, none⟩) (n + 1) cap) (n + 1) (xs.map (Value.int .u8) ++ [Value.int .u8 x])) : Owns w' base g cap (n + 1) (xs ++ [x]) :=
  ⟨by rw [List.length_append, h0.1]; rfl, by simpa using h⟩
theorem Owns.cell {w : World} {base g cap n : Nat} {xs : List Int} (h : Owns w base g cap n xs) {i : Nat} (hi : i < n) : w.cell? ⟨g, i, none⟩ = some (.int .u8 (xs.getD i 0)) := by
  have hil : i < xs.length := by rw [h.1]; exact hi
  rw [h.2.cellAt i (by omega), List.getElem?_map, List.getD, List.getElem?_eq_getElem hil]
  rfl
theorem Owns.lt {w : World} {base g cap n : Nat} {xs : List Int} (h : Owns w base g cap n xs) : g < w.heap.size := by
  rcases h.2.2 with ⟨h', _⟩ | ⟨g', cap', cur, h', _, hg, _⟩
  · simp at h'
  · simp only [Value.slice.injEq, Option.some.injEq, Addr.mk.injEq, and_true, true_and] at h'
    obtain ⟨rfl, rfl⟩ := h'
    exact (Array.getElem?_eq_some_iff.1 hg).1

def Printed (w : World) (neg : Bool) (c k : Nat) (e : Ending) (w' : World) : Prop :=
  ∃ L, k + 1 ≤ L ∧ L ≤ 18 ∧ c < 10 ^ L ∧ e = .returned (.string (strOfNums (text neg c k L L))) ∧ Below w.heap.size w w'

set_option maxRecDepth 100000 in
set_option maxHeartbeats 4000000 in
theorem print_any (c k : Nat) (neg : Bool) (w : World) (hc : c ≤ 999999999999999999) (hk : k ≤ 17) :
    Calls Trym.prog 10 #[.int .i64 (c : Int), .int .i64 (k : Int), .bool neg] w (Printed w neg c k) := by
  obtain ⟨i0, hi, hz0, hz1, hz2⟩ := info_parts info5
  go_enter Trym.func10, Trym.ntmps10
  go_wp2_with (at_make; refine wpList_make_own _ rfl _ _ 29 rfl w.heap.size 5 i0 (.int .u8 0) 1 Trym.underlying29 hi hz0 hz1 _ _ _ 40 rfl rfl rfl (by rw [hz2]; decide) (by unfold maxLen; decide) (Nat.le_refl _) ?_; intro w1 hown1 hgrow1)
  have HO1 : Hid (Owns w1 w.heap.size w.heap.size 40 0 [] ∧ Below w.heap.size w w1) := ⟨⟨rfl, hown1⟩, (Below.refl _ _).grown hgrow1 (Nat.le_refl _) (fun k hk => by cases hk)⟩
  clear hown1 hgrow1
  go_loopg [7, 8] 18 (fun g v n wr => ∃ j : Nat, j ≤ 17 ∧ g = 18 - j ∧ n = .int .i64 ((c / 10 ^ j : Nat) : Int) ∧ (j = 0 ∨ 0 < c / 10 ^ j) ∧ v = .slice (some ⟨w.heap.size, 0, none⟩) j 40 ∧ Owns wr w.heap.size w.heap.size 40 j (rv c j) ∧ Below w.heap.size w wr)
  case atStart => exact ⟨0, by omega, rfl, by simp, Or.inl rfl, rfl, HO1.out.1, HO1.out.2⟩
  case round =>
    clear HO1
    obtain ⟨j, hj, hg, rfl, hpos, rfl, hown, hb⟩ := hrel
    obtain ⟨N, hN⟩ : ∃ N, c / 10 ^ j = N := ⟨_, rfl⟩
    have HN : Hid (c / 10 ^ j = N) := hN
    have hNc : N ≤ 999999999999999999 := by rw [← hN]; exact Nat.le_trans (head_le _ _) hc
    have Hg : Hid (gk = 18 - j) := hg
    have hsz := hb.size
    have HD : Hid (N % 10 = dg c j) := by
      show _ = _
      rw [← HN.out]
      rfl
    have HN1 : Hid (N / 10 = c / 10 ^ (j + 1)) := by
      show _ = _
      rw [← HN.out, Nat.div_div_eq_div_mul, ← Nat.pow_succ]
    rw [hN]
    clear hN hg hpos
    by_cases hz : N / 10 = 0
    · have hze : ((N : Int) / 10 == 0) = true := by have e : (N : Int) / 10 = 0 := by omega
                                                    rw [e]; rfl
      have HLt : Hid (c < 10 ^ (j + 1)) := by
        rcases Nat.div_eq_zero_iff.1 (HN1.out.symm.trans hz) with h | h
        · exact absurd h (Nat.ne_of_gt (Nat.pow_pos (by decide)))
        · exact h
      clear hz
      go_wp2_with (at_builtin; refine wpList_append_fits _ rfl _ _ 29 rfl w.heap.size 5 i0 1 Trym.underlying29 hi hz1 w.heap.size j 40 ((rv c j).map (Value.int .u8)) rfl (hown.2.alloc _) ⟨wr.heap.size, 0, none⟩ 1 1 [.int .u8 (48 + (N : Int) % 10)] rfl rfl (cell_one_new _ _ _) (ints_oneCell .u8 [(48 + (N : Int) % 10)]) (by omega) ?_; intro w4 hown4 hgrow4)
      have HO4 : Hid (Owns w4 w.heap.size w.heap.size 40 (j + 1) (rv c (j + 1)) ∧ Below w.heap.size w w4) := ⟨by
        have e := hown.snoc hown4
        have e2 : (48 + (N : Int) % 10) = 48 + (dg c j : Int) := by have := HD.out; omega
        rw [e2] at e
        exact e, (hb.alloc hsz _).grown hgrow4 (by simp; omega) (fun k hk => by cases hk; exact Nat.le_refl _)⟩
      clear hown4 hgrow4 hown hb
      go_loopg [7] (18 - (j + 1)) (fun g v wr => ∃ q : Nat, 1 ≤ q ∧ q ≤ 18 ∧ g = 18 - q ∧ c < 10 ^ q ∧ v = .slice (some ⟨w.heap.size, 0, none⟩) q 40 ∧ Owns wr w.heap.size w.heap.size 40 q (rv c q) ∧ Below w.heap.size w wr)
      case atStart => exact ⟨j + 1, by omega, by omega, rfl, HLt.out, rfl, HO4.out.1, HO4.out.2⟩
      case round =>
        clear HO4 HLt HN HD HN1 Hg
        obtain ⟨q, hq1, hq18, hg, hcq, rfl, hown, hb⟩ := hrel
        have Hg : Hid (gk = 18 - q) := hg
        have HLt : Hid (c < 10 ^ q) := hcq
        have hsz := hb.size
        clear hg hcq
        by_cases hsh : q < k + 1
        · go_wp2_with (at_builtin; refine wpList_append_fits _ rfl _ _ 29 rfl w.heap.size 5 i0 1 Trym.underlying29 hi hz1 w.heap.size q 40 ((rv c q).map (Value.int .u8)) rfl (hown.2.alloc _) ⟨wr.heap.size, 0, none⟩ 1 1 [.int .u8 48] rfl rfl (cell_one_new _ _ _) (ints_oneCell .u8 [48]) (by omega) ?_; intro w4 hown4 hgrow4)
          go_roundg (18 - (q + 1))
          case measure => rw [Hg.out]; omega
          case rel =>
            refine ⟨q + 1, by omega, by omega, rfl, ?_, rfl, ?_, (hb.alloc hsz _).grown hgrow4 (by simp; omega) (fun k hk => by cases hk; exact Nat.le_refl _)⟩
            · have := HLt.out
              exact Nat.lt_of_lt_of_le this (Nat.pow_le_pow_right (by decide) (by omega))
            · have e := hown.snoc hown4
              have e2 : (48 : Int) = 48 + (dg c q : Int) := by
                unfold dg
                rw [Nat.div_eq_of_lt HLt.out]
                rfl
              rw [e2] at e
              exact e
        · obtain ⟨w2, rfl⟩ : ∃ w2 : World, w2 = wr := ⟨_, rfl⟩
          have HO2 : Hid (Owns w2 w.heap.size w.heap.size 40 q (rv c q) ∧ Below w.heap.size w w2) := ⟨hown, hb⟩
          clear hown hb Hg
          cases neg
          all_goals
            go_wp2_with (first | (at_make; refine wpList_make_own _ rfl _ _ 29 rfl w2.heap.size 5 i0 (.int .u8 0) 1 Trym.underlying29 hi hz0 hz1 _ _ _ 42 rfl rfl rfl (by rw [hz2]; decide) (by unfold maxLen; decide) (Nat.le_refl _) ?_; intro w3 hown3 hgrow3) | (at_builtin; refine wpList_append_fits _ rfl _ _ 29 rfl w2.heap.size 5 i0 1 Trym.underlying29 hi hz1 w2.heap.size 0 42 [] rfl (hown3.alloc _) ⟨w3.heap.size, 0, none⟩ 1 1 [.int .u8 45] rfl rfl (cell_one_new _ _ _) (ints_oneCell .u8 [45]) (by omega) ?_; intro w5 hown5 hgrow5))
          · have HO3 : Hid (Owns w3 w2.heap.size w2.heap.size 42 0 (text false c k q 0) ∧ Below w2.heap.size w2 w3) := ⟨⟨rfl, hown3⟩, (Below.refl _ _).grown hgrow3 (Nat.le_refl _) (fun k hk => by cases hk)⟩
            clear hown3 hgrow3
            go_loopg [9, 10] q (fun g v i wr => ∃ m n : Nat, m ≤ q ∧ g = q - m ∧ i = .int .i64 ((q : Int) - 1 - (m : Int)) ∧ v = .slice (some ⟨w2.heap.size, 0, none⟩) n 42 ∧ Owns wr w2.heap.size w2.heap.size 42 n (text false c k q m) ∧ Below w2.heap.size w2 wr)
            case atStart => exact ⟨0, 0, Nat.zero_le _, rfl, by go_num, rfl, HO3.out.1, HO3.out.2⟩
            case round =>
              clear HO3
              obtain ⟨m, n, hm, hg, rfl, rfl, hown, hb⟩ := hrel
              have Hg : Hid (gk = q - m) := hg
              have hsz := hb.size
              have hn20 : n ≤ 20 := by rw [← hown.1]; exact text_le false c k q (by omega) (by omega) m hm
              clear hg
              by_cases hmq : m < q
              · obtain ⟨r, hr⟩ : ∃ r, r = q - 1 - m := ⟨_, rfl⟩
                have hri : (q : Int) - 1 - (m : Int) = (r : Int) := by omega
                rw [hri]
                obtain ⟨y, hy⟩ : ∃ y, dg c r = y := ⟨_, rfl⟩
                have hy9 : y ≤ 9 := by rw [← hy]; have := dg_lt c r; omega
                have HX : Hid (∀ wX, Below w2.heap.size w2 wX → wX.cell? ⟨w.heap.size, r, none⟩ = some (.int .u8 (48 + (y : Int)))) := by
                  intro wX hX
                  have e := HO2.out.1.cell (i := r) (by omega)
                  rw [List.getD, rv_at c q r (by omega), hy] at e
                  exact (hX.cell (p := ⟨w.heap.size, r, none⟩) HO2.out.1.lt).trans e
                have hcell := HX.out wr hb
                have hrq : r < q := by omega
                have HR : Hid (r = q - 1 - m ∧ dg c r = y) := ⟨hr, hy⟩
                clear hri hr hy
                by_cases hdot : 0 < k ∧ r = k - 1
                · have hk0 : 0 < k := hdot.1
                  have hke : ((r : Int) == (k : Int) - 1) = true := beq_iff_eq.2 (by omega)
                  have HT : Hid (text false c k q (m + 1) = text false c k q m ++ [46] ++ [48 + (y : Int)]) := by
                    show _ = _
                    simp only [text, body]
                    rw [← HR.out.1, HR.out.2, if_pos hdot]
                    simp
                  clear hdot
                  go_wp2_with (first | (at_builtin; refine wpList_append_fits _ rfl (.tmp 52) (.tmp 53) 29 rfl w2.heap.size 5 i0 1 Trym.underlying29 hi hz1 w2.heap.size n 42 ((text false c k q m).map (Value.int .u8)) rfl (hown.2.alloc _) ⟨wr.heap.size, 0, none⟩ 1 1 [.int .u8 46] rfl rfl (cell_one_new _ _ _) (ints_oneCell .u8 [46]) (by omega) ?_; intro w4 hown4 hgrow4; have hb4 := (hb.alloc hsz _).grown hgrow4 (by simp; omega) (fun k hk => by cases hk; exact Nat.le_refl _); have hcell4 := HX.out w4 hb4) | (at_builtin; refine wpList_append_fits _ rfl (.tmp 55) (.tmp 60) 29 rfl w2.heap.size 5 i0 1 Trym.underlying29 hi hz1 w2.heap.size (n + 1) 42 ((text false c k q m).map (Value.int .u8) ++ [.int .u8 46]) rfl (hown4.alloc _) ⟨w4.heap.size, 0, none⟩ 1 1 [.int .u8 (48 + (y : Int))] rfl rfl (cell_one_new _ _ _) (ints_oneCell .u8 [(48 + (y : Int))]) (by omega) ?_; intro w6 hown6 hgrow6))
                  go_roundg (q - (m + 1))
                  case measure => rw [Hg.out]; omega
                  case rel =>
                    have s4 := hgrow4.size
                    refine ⟨m + 1, n + 1 + 1, hmq, rfl, by have e := HR.out.1; go_num, rfl, ?_, (((hb.alloc hsz _).grown hgrow4 (by simp; omega) (fun k hk => by cases hk; exact Nat.le_refl _)).alloc (by simp at s4; omega) _).grown hgrow6 (by simp at s4; simp; omega) (fun k hk => by cases hk; exact Nat.le_refl _)⟩
                    rw [HT.out]
                    exact (hown.snoc hown4).snoc (by simpa using hown6)
                · have HT : Hid (text false c k q (m + 1) = text false c k q m ++ [48 + (y : Int)]) := by
                    show _ = _
                    simp only [text, body]
                    rw [← HR.out.1, HR.out.2, if_neg hdot]
                    simp
                  by_cases hk0 : 0 < k
                  · have hke : ((r : Int) == (k : Int) - 1) = false := beq_eq_false_iff_ne.2 (by omega)
                    clear hdot
                    go_wp2_with (at_builtin; refine wpList_append_fits _ rfl _ _ 29 rfl w2.heap.size 5 i0 1 Trym.underlying29 hi hz1 w2.heap.size n 42 ((text false c k q m).map (Value.int .u8)) rfl (hown.2.alloc _) ⟨wr.heap.size, 0, none⟩ 1 1 [.int .u8 (48 + (y : Int))] rfl rfl (cell_one_new _ _ _) (ints_oneCell .u8 [(48 + (y : Int))]) (by omega) ?_; intro w4 hown4 hgrow4)
                    go_roundg (q - (m + 1))
                    case measure => rw [Hg.out]; omega
                    case rel =>
                      refine ⟨m + 1, n + 1, hmq, rfl, by have e := HR.out.1; go_num, rfl, ?_, (hb.alloc hsz _).grown hgrow4 (by simp; omega) (fun k hk => by cases hk; exact Nat.le_refl _)⟩
                      rw [HT.out]
                      exact hown.snoc hown4
                  · have hke : decide ((0 : Int) < (k : Int)) = false := decide_eq_false (by omega)
                    clear hdot
                    go_wp2_with (at_builtin; refine wpList_append_fits _ rfl _ _ 29 rfl w2.heap.size 5 i0 1 Trym.underlying29 hi hz1 w2.heap.size n 42 ((text false c k q m).map (Value.int .u8)) rfl (hown.2.alloc _) ⟨wr.heap.size, 0, none⟩ 1 1 [.int .u8 (48 + (y : Int))] rfl rfl (cell_one_new _ _ _) (ints_oneCell .u8 [(48 + (y : Int))]) (by omega) ?_; intro w4 hown4 hgrow4)
                    go_roundg (q - (m + 1))
                    case measure => rw [Hg.out]; omega
                    case rel =>
                      refine ⟨m + 1, n + 1, hmq, rfl, by have e := HR.out.1; go_num, rfl, ?_, (hb.alloc hsz _).grown hgrow4 (by simp; omega) (fun k hk => by cases hk; exact Nat.le_refl _)⟩
                      rw [HT.out]
                      exact hown.snoc hown4
              · have hmq' : q = m := by omega
                subst hmq'
                have hri : (q : Int) - 1 - (q : Int) = -1 := by omega
                rw [hri]
                have hconv : (convert 29 9 (.slice (some ⟨w2.heap.size, 0, none⟩) n 42)).run Trym.prog wr = .ok (.string (strOfNums (text false c k q q))) wr := run_convert_bytes_arg wr 29 5 Trym.underlying29 Trym.underlying5 w2.heap.size 0 n 42 (text false c k q q) hown.1 (fun i hi => by rw [Nat.zero_add]; exact hown.cell hi) 9 Trym.underlying9
                clear hri
                go_wp2
                go_ret
                exact ⟨q, by omega, hq18, HLt.out, rfl, HO2.out.2.trans (hb.mono HO2.out.2.size)⟩
          · have HO3 : Hid (Owns w5 w2.heap.size w2.heap.size 42 1 (text true c k q 0) ∧ Below w2.heap.size w2 w5) := ⟨⟨rfl, hown5⟩, (((Below.refl _ _).grown hgrow3 (Nat.le_refl _) (fun k hk => by cases hk)).alloc hgrow3.size _).grown hgrow5 (by have := hgrow3.size; simp; omega) (fun k hk => by cases hk; exact Nat.le_refl _)⟩
            clear hown3 hgrow3 hown5 hgrow5
            go_loopg [9, 10] q (fun g v i wr => ∃ m n : Nat, m ≤ q ∧ g = q - m ∧ i = .int .i64 ((q : Int) - 1 - (m : Int)) ∧ v = .slice (some ⟨w2.heap.size, 0, none⟩) n 42 ∧ Owns wr w2.heap.size w2.heap.size 42 n (text true c k q m) ∧ Below w2.heap.size w2 wr)
            case atStart => exact ⟨0, 1, Nat.zero_le _, rfl, by go_num, rfl, HO3.out.1, HO3.out.2⟩
            case round =>
              clear HO3
              obtain ⟨m, n, hm, hg, rfl, rfl, hown, hb⟩ := hrel
              have Hg : Hid (gk = q - m) := hg
              have hsz := hb.size
              have hn20 : n ≤ 20 := by rw [← hown.1]; exact text_le true c k q (by omega) (by omega) m hm
              clear hg
              by_cases hmq : m < q
              · obtain ⟨r, hr⟩ : ∃ r, r = q - 1 - m := ⟨_, rfl⟩
                have hri : (q : Int) - 1 - (m : Int) = (r : Int) := by omega
                rw [hri]
                obtain ⟨y, hy⟩ : ∃ y, dg c r = y := ⟨_, rfl⟩
                have hy9 : y ≤ 9 := by rw [← hy]; have := dg_lt c r; omega
                have HX : Hid (∀ wX, Below w2.heap.size w2 wX → wX.cell? ⟨w.heap.size, r, none⟩ = some (.int .u8 (48 + (y : Int)))) := by
                  intro wX hX
                  have e := HO2.out.1.cell (i := r) (by omega)
                  rw [List.getD, rv_at c q r (by omega), hy] at e
                  exact (hX.cell (p := ⟨w.heap.size, r, none⟩) HO2.out.1.lt).trans e
                have hcell := HX.out wr hb
                have hrq : r < q := by omega
                have HR : Hid (r = q - 1 - m ∧ dg c r = y) := ⟨hr, hy⟩
                clear hri hr hy
                by_cases hdot : 0 < k ∧ r = k - 1
                · have hk0 : 0 < k := hdot.1
                  have hke : ((r : Int) == (k : Int) - 1) = true := beq_iff_eq.2 (by omega)
                  have HT : Hid (text true c k q (m + 1) = text true c k q m ++ [46] ++ [48 + (y : Int)]) := by
                    show _ = _
                    simp only [text, body]
                    rw [← HR.out.1, HR.out.2, if_pos hdot]
                    simp
                  clear hdot
                  go_wp2_with (first | (at_builtin; refine wpList_append_fits _ rfl (.tmp 52) (.tmp 53) 29 rfl w2.heap.size 5 i0 1 Trym.underlying29 hi hz1 w2.heap.size n 42 ((text true c k q m).map (Value.int .u8)) rfl (hown.2.alloc _) ⟨wr.heap.size, 0, none⟩ 1 1 [.int .u8 46] rfl rfl (cell_one_new _ _ _) (ints_oneCell .u8 [46]) (by omega) ?_; intro w4 hown4 hgrow4; have hb4 := (hb.alloc hsz _).grown hgrow4 (by simp; omega) (fun k hk => by cases hk; exact Nat.le_refl _); have hcell4 := HX.out w4 hb4) | (at_builtin; refine wpList_append_fits _ rfl (.tmp 55) (.tmp 60) 29 rfl w2.heap.size 5 i0 1 Trym.underlying29 hi hz1 w2.heap.size (n + 1) 42 ((text true c k q m).map (Value.int .u8) ++ [.int .u8 46]) rfl (hown4.alloc _) ⟨w4.heap.size, 0, none⟩ 1 1 [.int .u8 (48 + (y : Int))] rfl rfl (cell_one_new _ _ _) (ints_oneCell .u8 [(48 + (y : Int))]) (by omega) ?_; intro w6 hown6 hgrow6))
                  go_roundg (q - (m + 1))
                  case measure => rw [Hg.out]; omega
                  case rel =>
                    have s4 := hgrow4.size
                    refine ⟨m + 1, n + 1 + 1, hmq, rfl, by have e := HR.out.1; go_num, rfl, ?_, (((hb.alloc hsz _).grown hgrow4 (by simp; omega) (fun k hk => by cases hk; exact Nat.le_refl _)).alloc (by simp at s4; omega) _).grown hgrow6 (by simp at s4; simp; omega) (fun k hk => by cases hk; exact Nat.le_refl _)⟩
                    rw [HT.out]
                    exact (hown.snoc hown4).snoc (by simpa using hown6)
                · have HT : Hid (text true c k q (m + 1) = text true c k q m ++ [48 + (y : Int)]) := by
                    show _ = _
                    simp only [text, body]
                    rw [← HR.out.1, HR.out.2, if_neg hdot]
                    simp
                  by_cases hk0 : 0 < k
                  · have hke : ((r : Int) == (k : Int) - 1) = false := beq_eq_false_iff_ne.2 (by omega)
                    clear hdot
                    go_wp2_with (at_builtin; refine wpList_append_fits _ rfl _ _ 29 rfl w2.heap.size 5 i0 1 Trym.underlying29 hi hz1 w2.heap.size n 42 ((text true c k q m).map (Value.int .u8)) rfl (hown.2.alloc _) ⟨wr.heap.size, 0, none⟩ 1 1 [.int .u8 (48 + (y : Int))] rfl rfl (cell_one_new _ _ _) (ints_oneCell .u8 [(48 + (y : Int))]) (by omega) ?_; intro w4 hown4 hgrow4)
                    go_roundg (q - (m + 1))
                    case measure => rw [Hg.out]; omega
                    case rel =>
                      refine ⟨m + 1, n + 1, hmq, rfl, by have e := HR.out.1; go_num, rfl, ?_, (hb.alloc hsz _).grown hgrow4 (by simp; omega) (fun k hk => by cases hk; exact Nat.le_refl _)⟩
                      rw [HT.out]
                      exact hown.snoc hown4
                  · have hke : decide ((0 : Int) < (k : Int)) = false := decide_eq_false (by omega)
                    clear hdot
                    go_wp2_with (at_builtin; refine wpList_append_fits _ rfl _ _ 29 rfl w2.heap.size 5 i0 1 Trym.underlying29 hi hz1 w2.heap.size n 42 ((text true c k q m).map (Value.int .u8)) rfl (hown.2.alloc _) ⟨wr.heap.size, 0, none⟩ 1 1 [.int .u8 (48 + (y : Int))] rfl rfl (cell_one_new _ _ _) (ints_oneCell .u8 [(48 + (y : Int))]) (by omega) ?_; intro w4 hown4 hgrow4)
                    go_roundg (q - (m + 1))
                    case measure => rw [Hg.out]; omega
                    case rel =>
                      refine ⟨m + 1, n + 1, hmq, rfl, by have e := HR.out.1; go_num, rfl, ?_, (hb.alloc hsz _).grown hgrow4 (by simp; omega) (fun k hk => by cases hk; exact Nat.le_refl _)⟩
                      rw [HT.out]
                      exact hown.snoc hown4
              · have hmq' : q = m := by omega
                subst hmq'
                have hri : (q : Int) - 1 - (q : Int) = -1 := by omega
                rw [hri]
                have hconv : (convert 29 9 (.slice (some ⟨w2.heap.size, 0, none⟩) n 42)).run Trym.prog wr = .ok (.string (strOfNums (text true c k q q))) wr := run_convert_bytes_arg wr 29 5 Trym.underlying29 Trym.underlying5 w2.heap.size 0 n 42 (text true c k q q) hown.1 (fun i hi => by rw [Nat.zero_add]; exact hown.cell hi) 9 Trym.underlying9
                clear hri
                go_wp2
                go_ret
                exact ⟨q, by omega, hq18, HLt.out, rfl, HO2.out.2.trans (hb.mono HO2.out.2.size)⟩
    · have hze : ((N : Int) / 10 == 0) = false := beq_eq_false_iff_ne.2 (by omega)
      have HNz : Hid (¬ N / 10 = 0) := hz
      have hj17 : j < 17 := by
        apply Nat.lt_of_not_le
        intro h17
        have e1 : c / 10 ^ (j + 1) = 0 := Nat.div_eq_of_lt (by
          have : 10 ^ 18 ≤ 10 ^ (j + 1) := Nat.pow_le_pow_right (by decide) (by omega)
          have : c < 10 ^ 18 := by omega
          omega)
        exact HNz.out (HN1.out.trans e1)
      clear hz
      go_wp2_with (at_builtin; refine wpList_append_fits _ rfl _ _ 29 rfl w.heap.size 5 i0 1 Trym.underlying29 hi hz1 w.heap.size j 40 ((rv c j).map (Value.int .u8)) rfl (hown.2.alloc _) ⟨wr.heap.size, 0, none⟩ 1 1 [.int .u8 (48 + (N : Int) % 10)] rfl rfl (cell_one_new _ _ _) (ints_oneCell .u8 [(48 + (N : Int) % 10)]) (by omega) ?_; intro w4 hown4 hgrow4)
      go_roundg (18 - (j + 1))
      case measure => rw [Hg.out]; omega
      case rel =>
        refine ⟨j + 1, by omega, rfl, ?_, Or.inr ?_, rfl, ?_, (hb.alloc hsz _).grown hgrow4 (by simp; omega) (fun k hk => by cases hk; exact Nat.le_refl _)⟩
        · rw [← HN1.out]; go_num
        · rw [← HN1.out]; have := HNz.out; omega
        · have e := hown.snoc hown4
          have e2 : (48 + (N : Int) % 10) = 48 + (dg c j : Int) := by have := HD.out; omega
          rw [e2] at e
          exact e
end Go.Proofs.Qxb6602519aMods
