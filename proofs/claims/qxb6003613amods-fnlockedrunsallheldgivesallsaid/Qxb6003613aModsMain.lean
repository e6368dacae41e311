import Derived.Test.Qxb6003613aModsLocked
import Derived.Test.Qxb6003613aModsEqual
namespace Go.Proofs.Qxb6003613aMods
open Go.RowKit Go.Maps

theorem gather_all (Z : Nat → List Int) (ls : List Int) : ∀ k, (∀ i, i < k → ∀ x ∈ Z i, x ∈ ls) → gather Z ls k = flat Z k
  | 0, _ => rfl
  | k + 1, h => by
    simp only [gather, flat]
    rw [gather_all Z ls k (fun i hi => h i (by omega)), takeWhile_all (fun x hx => decide_eq_true (h k (by omega) x hx))]
theorem gather_none (Z : Nat → List Int) : ∀ k, gather Z [] k = []
  | 0 => rfl
  | k + 1 => by
    simp only [gather]
    rw [gather_none Z k]
    cases Z k <;> simp
theorem flat_mem (Z : Nat → List Int) : ∀ k i, i < k → ∀ x ∈ Z i, x ∈ flat Z k
  | 0, _, h => absurd h (by omega)
  | k + 1, i, h => by
    intro x hx
    simp only [flat, List.mem_append]
    by_cases hik : i = k
    · subst hik; exact Or.inr hx
    · exact Or.inl (flat_mem Z k i (by omega) x hx)
theorem mem_flat (Z : Nat → List Int) : ∀ k z, z ∈ flat Z k → ∃ i, i < k ∧ z ∈ Z i
  | 0, z, h => by simp [flat] at h
  | k + 1, z, h => by
    simp only [flat, List.mem_append] at h
    rcases h with h | h
    · obtain ⟨i, hi, hz⟩ := mem_flat Z k z h
      exact ⟨i, by omega, hz⟩
    · exact ⟨k, by omega, h⟩

theorem zzlocked_any (a : Option Addr) (len c b off : Nat) (A : Nat → Option Addr) (L C B O : Nat → Nat) (Z : Nat → List Int) (a1 : Option Addr) (l1 c1 b1 o1 : Nat) (ls : List Int) (w : World)
    (h : RowsAt w a len b off A L C B O Z) (h1 : IntsAt w a1 l1 b1 o1 ls) (hm : len ≤ 1048576) (hm1 : l1 ≤ 1048576) (hfl : (flat Z len).length ≤ 1048576) :
    Calls Trym.prog 8 #[.slice a len c, .slice a1 l1 c1] w (Cloned w (gather Z ls len).length (gather Z ls len)) := by
  have H := locked_any a len c b off A L C B O Z a1 l1 c1 b1 o1 ls w h h1 hm hm1 hfl
  have HH : Hid (Calls Trym.prog 13 #[.slice a len c, .slice a1 l1 c1] w (Cloned w (gather Z ls len).length (gather Z ls len))) := H
  clear H h h1
  go_enter Trym.func8, Trym.ntmps8
  go_wp2_with fail
  refine HH.out.mono ?_
  rintro e w1 ⟨a', c', b', rfl, hI, hlo, hb1⟩
  go_wp2
  go_ret
  exact ⟨a', c', b', rfl, hI, hlo, hb1⟩

theorem zzlocked_all (a : Option Addr) (len c b off : Nat) (A : Nat → Option Addr) (L C B O : Nat → Nat) (Z : Nat → List Int) (a1 : Option Addr) (l1 c1 b1 o1 : Nat) (ls : List Int) (w : World)
    (h : RowsAt w a len b off A L C B O Z) (h1 : IntsAt w a1 l1 b1 o1 ls) (hm : len ≤ 1048576) (hm1 : l1 ≤ 1048576) (hfl : (flat Z len).length ≤ 1048576) (hall : ∀ i, i < len → ∀ x ∈ Z i, x ∈ ls) (n : Nat) (hn : n = (flat Z len).length) :
    Calls Trym.prog 8 #[.slice a len c, .slice a1 l1 c1] w (Cloned w n (flat Z len)) := by
  subst hn
  have := zzlocked_any a len c b off A L C B O Z a1 l1 c1 b1 o1 ls w h h1 hm hm1 hfl
  rwa [gather_all Z ls len hall] at this

theorem zzlocked_none (a : Option Addr) (len c b off : Nat) (A : Nat → Option Addr) (L C B O : Nat → Nat) (Z : Nat → List Int) (w : World)
    (h : RowsAt w a len b off A L C B O Z) (hm : len ≤ 1048576) (hfl : (flat Z len).length ≤ 1048576) :
    Calls Trym.prog 8 #[.slice a len c, .slice none 0 0] w (Cloned w 0 []) := by
  have := zzlocked_any a len c b off A L C B O Z none 0 0 0 0 [] w h ⟨rfl, fun h => absurd h (by omega), fun h => absurd h (by omega), fun i hi => absurd hi (by omega), by simp⟩ hm (by omega) hfl
  rwa [gather_none] at this

/-- What the law's call leaves. -/
def Good (w : World) (e : Ending) (w' : World) : Prop := e = .returned (.bool true) ∧ Below w.heap.size w w'

set_option maxHeartbeats 4000000 in
theorem law_any (a : Option Addr) (len c b off : Nat) (A : Nat → Option Addr) (L C B O : Nat → Nat) (Z : Nat → List Int) (a1 : Option Addr) (l1 c1 b1 o1 : Nat) (ls : List Int) (w : World)
    (h : RowsAt w a len b off A L C B O Z) (h1 : IntsAt w a1 l1 b1 o1 ls) (hm : len ≤ maxLen) (hL : ∀ i, i < len → L i ≤ maxLen) (hm1 : l1 ≤ maxLen) :
    Calls Trym.prog 3 #[.slice a len c, .slice a1 l1 c1] w (Good w) := by
  have HB : Hid (Calls Trym.prog 5 #[.slice a len c, .slice a1 l1 c1] w (SomeBool w)) := bytes_any a len c b off A L C B O Z a1 l1 c1 w h hm hL hm1
  unfold maxLen at hm hm1
  have H : Hid (RowsAt w a len b off A L C B O Z ∧ IntsAt w a1 l1 b1 o1 ls ∧ ∀ i, i < len → L i ≤ maxLen) := ⟨h, h1, hL⟩
  have HA : Hid ((0 < len → a = some ⟨b, off, none⟩) ∧ (0 < l1 → a1 = some ⟨b1, o1, none⟩)) := ⟨h.addr, h1.addr⟩
  obtain ⟨i0, hi, hz0, hz1, hz2⟩ := info_parts info2
  clear h h1 hL
  go_enter Trym.func3, Trym.ntmps3
  go_wp2_with fail
  refine HB.out.mono ?_
  rintro e w' ⟨x, rfl, rfl⟩
  cases x
  case false =>
    go_wp2
    go_ret
    exact ⟨rfl, Below.refl _ _⟩
  case true =>
    by_cases g1 : 131072 < l1
    · go_wp2
      go_ret
      exact ⟨rfl, Below.refl _ _⟩
    by_cases g2 : 131072 < len
    · go_wp2
      go_ret
      exact ⟨rfl, Below.refl _ _⟩
    by_cases g3 : 1048576 < 8 * l1 + 8 * len
    · go_wp2
      go_ret
      exact ⟨rfl, Below.refl _ _⟩
    go_wp2_with fail
    go_loopg [5, 6] len (fun g n i wr => ∃ k : Nat, k ≤ len ∧ i = .int .i64 k ∧ g = len - k ∧ n = .int .i64 ((8 * l1 + 8 * len + 8 * (flat Z k).length : Nat) : Int) ∧ 8 * l1 + 8 * len + 8 * (flat Z k).length ≤ 1048576 ∧ wr = w)
    case atStart => exact ⟨0, Nat.zero_le _, rfl, rfl, by simp only [flat]; go_num, by simp only [flat, List.length_nil]; omega, rfl⟩
    case round =>
      obtain ⟨k, hk, rfl, hg, rfl, hT, rfl⟩ := hrel
      obtain ⟨F, hF⟩ : ∃ F, (flat Z k).length = F := ⟨_, rfl⟩
      have HF : Hid ((flat Z k).length = F) := hF
      rw [hF] at hT ⊢
      clear hF
      have Hg : Hid (gk = len - k) := hg
      clear hg
      by_cases hlt : k < len
      · have hx0 := fun w => run_at w (cap := c) Trym.underlying22 size23 HA.out.1 hlt
        have hd0 := H.out.1.cell k hlt
        have hLk := H.out.2.2 k hlt
        unfold maxLen at hLk
        have HZ : Hid ((Z k).length = L k) := (H.out.1.row k hlt).len_eq
        by_cases q1 : 131072 < L k
        · go_wp2
          go_ret
          exact ⟨rfl, Below.refl _ _⟩
        by_cases q2 : 1048576 < 8 * l1 + 8 * len + 8 * F + 8 * L k
        · go_wp2
          go_ret
          exact ⟨rfl, Below.refl _ _⟩
        go_wp2
        go_roundg (len - (k + 1))
        case measure => rw [Hg.out]; omega
        case rel =>
          have e : (flat Z (k + 1)).length = F + L k := by simp only [flat, List.length_append]; rw [HF.out, HZ.out]
          refine ⟨k + 1, hlt, by go_num, rfl, ?_, by rw [e]; omega, rfl⟩
          rw [e]
          go_num
      · have hkl : len = k := by omega
        subst hkl
        clear Hg
        have hfl : (flat Z len).length ≤ 131072 := by rw [HF.out]; omega
        have HL : Hid (∀ i, i < len → L i ≤ 1048576) := by
          intro i hi
          have e1 := flat_mono Z (k := i + 1) (n := len) hi
          have e2 := (H.out.1.row i hi).len_eq
          simp only [flat, List.length_append] at e1
          omega
        have HFl : Hid ((flat Z len).length ≤ 131072) := hfl
        clear hfl
        go_wp2_with fail
        refine (cloneRuns_any a len c b off A L C B O Z wr H.out.1 (by omega) HL.out).mono ?_
        rintro e w1 ⟨a2, c2, b2, A2, C2, B2, rfl, hR2, hb1⟩
        have HI1 : Hid (IntsAt w1 a1 l1 b1 o1 ls) := H.out.2.1.below hb1 (fun h0 => H.out.2.1.lt h0)
        have HR1 : Hid (RowsAt w1 a2 len b2 0 A2 L C2 B2 (fun _ => 0) Z ∧ Below wr.heap.size wr w1) := ⟨hR2, hb1⟩
        clear hR2 hb1
        go_wp2_with fail
        refine (clone_any a1 l1 c1 b1 o1 ls w1 HI1.out (by omega) (by by_cases h0 : 0 < l1; exact Or.inl (HI1.out.lt h0); exact Or.inr (by omega))).mono ?_
        rintro e w2 ⟨a3, c3, b3, rfl, hI3, hlo3, hb2⟩
        have HR2 : Hid (RowsAt w2 a2 len b2 0 A2 L C2 B2 (fun _ => 0) Z) := HR1.out.1.below hb2 (Nat.le_refl _)
        have HB2 : Hid (Below wr.heap.size wr w2) := HR1.out.2.trans (hb2.mono HR1.out.2.size)
        have HI3 : Hid (IntsAt w2 a3 l1 b3 0 ls) := hI3
        have HA2 : Hid ((0 < len → a2 = some ⟨b2, 0, none⟩) ∧ (0 < l1 → a3 = some ⟨b3, 0, none⟩)) := ⟨HR2.out.addr, HI3.out.addr⟩
        clear hI3 hlo3 hb2 HR1 HI1 HA HB HL
        go_wp2
        go_loopg [7, 8] len (fun g v i wr => ∃ k : Nat, k ≤ len ∧ i = .int .i64 k ∧ g = len - k ∧ OwnsInts wr w2.heap.size v (flat Z k) ∧ Below w2.heap.size w2 wr)
        case atStart => exact ⟨0, Nat.zero_le _, rfl, rfl, World.ownsRow_nil _ _ _ _, Below.refl _ _⟩
        case round =>
          obtain ⟨k, hk, rfl, hg, hown, hb⟩ := hrel
          have Hg : Hid (gk = len - k) := hg
          clear hg
          by_cases hlt : k < len
          · have hx0 := fun w => run_at w (cap := c2) Trym.underlying22 size23 HA2.out.1 hlt
            have hLk : L k ≤ 131072 := by
              have e1 := flat_mono Z (k := k + 1) (n := len) hlt
              have e2 := (HR2.out.row k hlt).len_eq
              have e3 := HFl.out
              simp only [flat, List.length_append] at e1
              omega
            have HM : Hid (OwnsInts wr w2.heap.size u7 (flat Z k) ∧ Below w2.heap.size w2 wr) := ⟨hown, hb⟩
            clear hown hb
            go_wp2
            go_loopg [7, 9] (L k) (fun g v i wr => ∃ m : Nat, m ≤ L k ∧ i = .int .i64 m ∧ g = L k - m ∧ OwnsInts wr w2.heap.size v (flat Z k ++ (Z k).take m) ∧ Below w2.heap.size w2 wr)
            case atStart => exact ⟨0, Nat.zero_le _, rfl, rfl, by simpa using HM.out.1, HM.out.2⟩
            case round =>
              obtain ⟨m, hm', rfl, hg', hown, hb⟩ := hrel
              have hd0 : wr.cell? ⟨b2, 0 + k, none⟩ = some (.slice (A2 k) (L k) (C2 k)) := (hb.cell (p := ⟨b2, 0 + k, none⟩) (HR2.out.lt (by omega))).trans (HR2.out.cell k hlt)
              rw [Nat.zero_add] at hd0
              simp only [Nat.zero_add] at hx0
              have HR : Hid (IntsAt w2 (A2 k) (L k) (B2 k) 0 (Z k)) := HR2.out.row k hlt
              have Hg' : Hid (gk = L k - m) := hg'
              clear hg'
              by_cases hlm : m < L k
              · have hy0 := fun w => run_at w (cap := C2 k) Trym.underlying23 size2 HR.out.addr hlm
                simp only [Nat.zero_add] at hy0
                obtain ⟨x, hx⟩ : ∃ x, (Z k).getD m 0 = x := ⟨_, rfl⟩
                have hd1 : wr.cell? ⟨B2 k, m, none⟩ = some (.int .i64 x) := by rw [← hx]; exact (hb.cell (p := ⟨B2 k, m, none⟩) (HR.out.lt (by omega))).trans (by have := HR.out.cell m hlm; rwa [Nat.zero_add] at this)
                have hlZ : m < (Z k).length := by rw [HR.out.len_eq]; exact hlm
                have hxm : x = (Z k)[m] := by rw [← hx, List.getD, List.getElem?_eq_getElem hlZ]; rfl
                have hFm : (flat Z k ++ (Z k).take m).length ≤ 131072 := by
                  have e1 := flat_mono Z (k := k + 1) (n := len) hlt
                  have e3 := HFl.out
                  simp only [flat, List.length_append, List.length_take] at e1 ⊢
                  omega
                have HS : Hid (flat Z k ++ (Z k).take (m + 1) = (flat Z k ++ (Z k).take m) ++ [x]) := by
                  have e : (Z k).take (m + 1) = (Z k).take m ++ [x] := by rw [hxm]; exact List.take_succ_eq_append_getElem hlZ
                  show flat Z k ++ (Z k).take (m + 1) = _
                  rw [e, List.append_assoc]
                have hsz2 := hb.size
                clear hx hxm hlZ
                go_wp2_with (at_builtin; refine wpList_append_own _ rfl _ _ 23 rfl w2.heap.size 2 i0 (.int .i64 0) 1 8 Trym.underlying23 hi hz0 hz1 hz2 rfl (by decide) _ _ _ rfl (hown.alloc _) ⟨wr.heap.size, 0, none⟩ 1 1 [.int .i64 x] rfl rfl (cell_one_new _ _ _) (ints_oneCell .i64 [x]) (by unfold maxLen; omega) (by omega) (by simp; omega) ?_; intro v' w1 hown' hgrow _)
                go_roundg (L k - (m + 1))
                case measure => rw [Hg'.out]; omega
                case rel =>
                  refine ⟨m + 1, hlm, by go_num, rfl, ?_, (hb.alloc hsz2 _).grown hgrow (by simp; omega) (fun k hk => OwnsInts.block_le hown k hk)⟩
                  rw [HS.out]
                  exact OwnsInts.snoc (by simpa using hown')
              · have HX : Hid (flat Z k ++ (Z k).take m = flat Z (k + 1)) := by
                  have e0 : (Z k).take m = Z k := List.take_of_length_le (by rw [HR.out.len_eq]; omega)
                  show flat Z k ++ (Z k).take m = _
                  rw [e0]; rfl
                go_wp2
                go_roundg (len - (k + 1))
                case measure => rw [Hg.out]; omega
                case rel => exact ⟨k + 1, hlt, by go_num, rfl, HX.out ▸ hown, hb⟩
          · have hkl : len = k := by omega
            subst hkl
            clear Hg
            obtain ⟨w4, rfl⟩ : ∃ w4 : World, w4 = wr := ⟨_, rfl⟩
            obtain ⟨a4, c4, b4, rfl, hI4, hlo4⟩ := hown.ints (fun z hz => by
              obtain ⟨i, hi, hzi⟩ := mem_flat Z len z hz
              exact (HR2.out.row i hi).wf z hzi)
            obtain ⟨n4, hn4⟩ : ∃ n, (flat Z len).length = n := ⟨_, rfl⟩
            rw [hn4] at hI4 hlo4 ⊢
            have hn4' : n4 ≤ 131072 := by rw [← hn4]; exact HFl.out
            have Hn4 : Hid ((flat Z len).length = n4) := hn4
            have HI4 : Hid (IntsAt w4 a4 n4 b4 0 (flat Z len)) := hI4
            have HB4 : Hid (Below w2.heap.size w2 w4) := hb
            have HR4 : Hid (RowsAt w4 a2 len b2 0 A2 L C2 B2 (fun _ => 0) Z) := HR2.out.below hb (Nat.le_refl _)
            have HI5 : Hid (IntsAt w4 a3 l1 b3 0 ls) := HI3.out.below hb (fun h0 => HI3.out.lt h0)
            clear hn4 hI4 hlo4 hown hb HR2 HI3
            go_wp2_with (at_make; refine wpList_make_own _ rfl _ _ 23 rfl w4.heap.size 2 i0 (.int .i64 0) 1 Trym.underlying23 hi hz0 hz1 _ _ _ (n4 + l1) rfl rfl (by omega) (by rw [hz2]; omega) (by unfold maxLen; omega) (Nat.le_refl _) ?_; intro w5 hown5 hgrow5)
            have HO5 : Hid (OwnsInts w5 w4.heap.size (.slice (some ⟨w4.heap.size, 0, none⟩) 0 (n4 + l1)) [] ∧ Below w4.heap.size w4 w5) := ⟨hown5, (Below.refl _ _).grown hgrow5 (Nat.le_refl _) (fun k hk => by cases hk)⟩
            clear hown5 hgrow5
            go_loopg [10, 11] n4 (fun g v i wx => ∃ k : Nat, k ≤ n4 ∧ i = .int .i64 k ∧ g = n4 - k ∧ OwnsInts wx w4.heap.size v ((flat Z len).take k) ∧ Below w4.heap.size w4 wx)
            case atStart => exact ⟨0, Nat.zero_le _, rfl, rfl, by simpa using HO5.out.1, HO5.out.2⟩
            case round =>
              clear HO5
              obtain ⟨k, hk, rfl, hg, hown, hb⟩ := hrel
              have Hg : Hid (gk = n4 - k) := hg
              clear hg
              by_cases hlt : k < n4
              · have hx0 := fun w => run_at w (cap := c4) Trym.underlying23 size2 HI4.out.addr hlt
                simp only [Nat.zero_add] at hx0
                obtain ⟨x, hx⟩ : ∃ x, (flat Z len).getD k 0 = x := ⟨_, rfl⟩
                have hd1 : wr.cell? ⟨b4, k, none⟩ = some (.int .i64 x) := by rw [← hx]; exact (hb.cell (p := ⟨b4, k, none⟩) (HI4.out.lt (by omega))).trans (by have := HI4.out.cell k hlt; rwa [Nat.zero_add] at this)
                have hlZ : k < (flat Z len).length := by rw [Hn4.out]; exact hlt
                have hFm : ((flat Z len).take k).length ≤ 131072 := by simp only [List.length_take]; omega
                have HS : Hid ((flat Z len).take (k + 1) = (flat Z len).take k ++ [x]) := by
                  have hxm : x = (flat Z len)[k] := by rw [← hx, List.getD, List.getElem?_eq_getElem hlZ]; rfl
                  rw [hxm]; exact List.take_succ_eq_append_getElem hlZ
                have hsz2 := hb.size
                clear hx hlZ
                go_wp2_with (at_builtin; refine wpList_append_own _ rfl _ _ 23 rfl w4.heap.size 2 i0 (.int .i64 0) 1 8 Trym.underlying23 hi hz0 hz1 hz2 rfl (by decide) _ _ _ rfl (hown.alloc _) ⟨wr.heap.size, 0, none⟩ 1 1 [.int .i64 x] rfl rfl (cell_one_new _ _ _) (ints_oneCell .i64 [x]) (by unfold maxLen; omega) (by omega) (by simp; omega) ?_; intro v' w1 hown' hgrow _)
                go_roundg (n4 - (k + 1))
                case measure => rw [Hg.out]; omega
                case rel =>
                  refine ⟨k + 1, hlt, by go_num, rfl, ?_, (hb.alloc hsz2 _).grown hgrow (by simp; omega) (fun k hk => OwnsInts.block_le hown k hk)⟩
                  rw [HS.out]
                  exact OwnsInts.snoc (by simpa using hown')
              · have HO6 : Hid (OwnsInts wr w4.heap.size u10 (flat Z len) ∧ Below w4.heap.size w4 wr) := ⟨by
                  rw [List.take_of_length_le (by rw [Hn4.out]; omega)] at hown
                  exact hown, hb⟩
                clear hown hb Hg
                go_wp2
                go_loopg [10, 12] l1 (fun g v i wx => ∃ k : Nat, k ≤ l1 ∧ i = .int .i64 k ∧ g = l1 - k ∧ OwnsInts wx w4.heap.size v (flat Z len ++ ls.take k) ∧ Below w4.heap.size w4 wx)
                case atStart => exact ⟨0, Nat.zero_le _, rfl, rfl, by simpa using HO6.out.1, HO6.out.2⟩
                case round =>
                  clear HO6
                  obtain ⟨k, hk, rfl, hg, hown, hb⟩ := hrel
                  have Hg : Hid (gk = l1 - k) := hg
                  clear hg
                  by_cases hlt : k < l1
                  · have hx0 := fun w => run_at w (cap := c3) Trym.underlying23 size2 HI5.out.addr hlt
                    simp only [Nat.zero_add] at hx0
                    obtain ⟨x, hx⟩ : ∃ x, ls.getD k 0 = x := ⟨_, rfl⟩
                    have hd1 : wr.cell? ⟨b3, k, none⟩ = some (.int .i64 x) := by rw [← hx]; exact (hb.cell (p := ⟨b3, k, none⟩) (HI5.out.lt (by omega))).trans (by have := HI5.out.cell k hlt; rwa [Nat.zero_add] at this)
                    have hlZ : k < ls.length := by rw [HI5.out.len_eq]; exact hlt
                    have hFm : (flat Z len ++ ls.take k).length ≤ 262144 := by simp only [List.length_append, List.length_take]; have := Hn4.out; omega
                    have HS : Hid (flat Z len ++ ls.take (k + 1) = (flat Z len ++ ls.take k) ++ [x]) := by
                      have hxm : x = ls[k] := by rw [← hx, List.getD, List.getElem?_eq_getElem hlZ]; rfl
                      have e : ls.take (k + 1) = ls.take k ++ [x] := by rw [hxm]; exact List.take_succ_eq_append_getElem hlZ
                      show flat Z len ++ ls.take (k + 1) = _
                      rw [e, List.append_assoc]
                    have hsz2 := hb.size
                    clear hx hlZ
                    go_wp2_with (at_builtin; refine wpList_append_own _ rfl _ _ 23 rfl w4.heap.size 2 i0 (.int .i64 0) 1 8 Trym.underlying23 hi hz0 hz1 hz2 rfl (by decide) _ _ _ rfl (hown.alloc _) ⟨wr.heap.size, 0, none⟩ 1 1 [.int .i64 x] rfl rfl (cell_one_new _ _ _) (ints_oneCell .i64 [x]) (by unfold maxLen; omega) (by omega) (by simp; omega) ?_; intro v' w1 hown' hgrow _)
                    go_roundg (l1 - (k + 1))
                    case measure => rw [Hg.out]; omega
                    case rel =>
                      refine ⟨k + 1, hlt, by go_num, rfl, ?_, (hb.alloc hsz2 _).grown hgrow (by simp; omega) (fun k hk => OwnsInts.block_le hown k hk)⟩
                      rw [HS.out]
                      exact OwnsInts.snoc (by simpa using hown')
                  · clear Hg
                    obtain ⟨w6, rfl⟩ : ∃ w6 : World, w6 = wr := ⟨_, rfl⟩
                    rw [List.take_of_length_le (by rw [HI5.out.len_eq]; omega)] at hown
                    obtain ⟨a7, c7, b7, rfl, hI7, hlo7⟩ := hown.ints (fun z hz => by
                      rcases List.mem_append.1 hz with hz | hz
                      · exact HI4.out.wf z hz
                      · exact HI5.out.wf z hz)
                    obtain ⟨n7, hn7⟩ : ∃ n, (flat Z len ++ ls).length = n := ⟨_, rfl⟩
                    rw [hn7] at hI7 hlo7 ⊢
                    have hn7' : n7 ≤ 262144 := by have e1 := Hn4.out; have e2 := HI5.out.len_eq; rw [List.length_append] at hn7; omega
                    have HI7 : Hid (IntsAt w6 a7 n7 b7 0 (flat Z len ++ ls)) := hI7
                    have HR6 : Hid (RowsAt w6 a2 len b2 0 A2 L C2 B2 (fun _ => 0) Z) := HR4.out.below hb (Nat.le_refl _)
                    have HI6 : Hid (IntsAt w6 a4 n4 b4 0 (flat Z len)) := HI4.out.below hb (fun h0 => HI4.out.lt h0)
                    have HB6 : Hid (Below w4.heap.size w4 w6) := hb
                    clear hn7 hI7 hlo7 hown hb HR4 HI4 HI5
                    go_wp2_with fail
                    refine (zzlocked_all a2 len c2 b2 0 A2 L C2 B2 (fun _ => 0) Z a7 n7 c7 b7 0 (flat Z len ++ ls) w6 HR6.out HI7.out (by omega) (by omega) (by have := HFl.out; omega) (fun i hi x hx => List.mem_append.2 (Or.inl (flat_mem Z len i hi x hx))) n4 Hn4.out.symm).mono ?_
                    rintro e w7 ⟨a8, c8, b8, rfl, hI8, hlo8, hb7⟩
                    have HR7 : Hid (RowsAt w7 a2 len b2 0 A2 L C2 B2 (fun _ => 0) Z) := HR6.out.below hb7 (Nat.le_refl _)
                    have HI67 : Hid (IntsAt w7 a4 n4 b4 0 (flat Z len)) := HI6.out.below hb7 (fun h0 => HI6.out.lt h0)
                    have HI8 : Hid (IntsAt w7 a8 n4 b8 0 (flat Z len)) := hI8
                    have HB7 : Hid (Below w6.heap.size w6 w7) := hb7
                    clear hI8 hlo8 hb7 HR6 HI6 HI7
                    go_wp2_with fail
                    refine (zzlocked_none a2 len c2 b2 0 A2 L C2 B2 (fun _ => 0) Z w7 HR7.out (by omega) (by have := HFl.out; omega)).mono ?_
                    rintro e w8 ⟨a9, c9, b9, rfl, hI9, hlo9, hb8⟩
                    have HI68 : Hid (IntsAt w8 a4 n4 b4 0 (flat Z len)) := HI67.out.below hb8 (fun h0 => HI67.out.lt h0)
                    have HI88 : Hid (IntsAt w8 a8 n4 b8 0 (flat Z len)) := HI8.out.below hb8 (fun h0 => HI8.out.lt h0)
                    have HB8 : Hid (Below w7.heap.size w7 w8) := hb8
                    clear hI9 hlo9 hb8 HR7 HI67 HI8
                    go_wp2_with fail
                    refine (equal_same a8 a4 n4 c8 c4 b8 b4 0 0 (flat Z len) w8 HI88.out HI68.out (by omega)).mono ?_
                    rintro e w9 ⟨rfl, hb9⟩
                    have HB9 : Hid (Below w8.heap.size w8 w9) := hb9
                    clear hb9
                    go_wp2
                    go_ret
                    have s2 := HB2.out.size
                    have s4 := HB4.out.size
                    have s6 := HB6.out.size
                    have s7 := HB7.out.size
                    have s8 := HB8.out.size
                    exact ⟨rfl, HB2.out.trans ((HB4.out.mono s2).trans ((HB6.out.mono (by omega)).trans ((HB7.out.mono (by omega)).trans ((HB8.out.mono (by omega)).trans (HB9.out.mono (by omega))))))⟩
end Go.Proofs.Qxb6003613aMods
