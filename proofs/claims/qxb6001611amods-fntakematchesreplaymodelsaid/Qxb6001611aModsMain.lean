import Derived.Test.Qxb6001611aModsHigh
namespace Go.Proofs.Qxb6001611aMods
open Go.RowKit

def vals (S : List Nat) : List Value := S.map fun x : Nat => Value.int .u64 (x : Int)
theorem vals_snoc (S : List Nat) (s : Nat) : vals S ++ [Value.int .u64 (s : Int)] = vals (S ++ [s]) := by simp [vals]
theorem vals_at {S : List Nat} {i : Nat} (hi : i < S.length) : (vals S)[i]? = some (.int .u64 (S.getD i 0 : Int)) := by
  simp [vals, List.getD, List.getElem?_eq_getElem hi]

/-- The list 'seen' as it lies: in block g, of capacity n. -/
def Seen (w : World) (g n : Nat) (S : List Nat) : Prop := w.ownsRow g 24 1 (.slice (some ⟨g, 0, none⟩) S.length n) S.length (vals S)
theorem Seen.uints {w : World} {g n : Nat} {S : List Nat} (h : Seen w g n S) (hw : ∀ x ∈ S, x < 18446744073709551616) : UintsAt w (some ⟨g, 0, none⟩) S.length g 0 S :=
  uintsAt_of_owns h rfl (fun _ hi => vals_at hi) hw
theorem Seen.below {w w' : World} {g n : Nat} {S : List Nat} (h : Seen w g n S) (hb : Below w.heap.size w w') : Seen w' g n S := by
  obtain ⟨h1, h2⟩ := h
  refine ⟨h1, ?_⟩
  rcases h2 with ⟨h', _⟩ | ⟨g', cap', cur, h', hbg, hg, r⟩
  · simp at h'
  · exact Or.inr ⟨g', cap', cur, h', hbg, (hb.block g' (Array.getElem?_eq_some_iff.1 hg).1).trans hg, r⟩
theorem Seen.lt {w : World} {g n : Nat} {S : List Nat} (h : Seen w g n S) : g < w.heap.size := by
  rcases h.2 with ⟨h', _⟩ | ⟨g', cap', cur, h', _, hg, _⟩
  · simp at h'
  · simp only [Value.slice.injEq, Option.some.injEq, Addr.mk.injEq, and_true, true_and] at h'
    obtain ⟨rfl, rfl⟩ := h'
    exact (Array.getElem?_eq_some_iff.1 hg).1
theorem Seen.none {w : World} {g n : Nat} {S : List Nat} (h : Seen w g n S) : Seen w g n [] := by
  refine ⟨by simp [vals], ?_⟩
  rcases h.2 with ⟨h', _⟩ | ⟨g', cap', cur, h', hbg, hg, h1, h2, h3, _⟩
  · simp at h'
  · simp only [Value.slice.injEq, Option.some.injEq, Addr.mk.injEq, and_true, true_and] at h'
    obtain ⟨rfl, rfl⟩ := h'
    exact Or.inr ⟨g, n, cur, rfl, hbg, hg, Nat.zero_le _, h2, h3, by simp [vals]⟩

def Good (w : World) (e : Ending) (w' : World) : Prop := e = .returned (.bool true) ∧ Below w.heap.size w w'

set_option maxRecDepth 100000 in
set_option maxHeartbeats 8000000 in
theorem law_any (a : Option Addr) (l c b o : Nat) (z : List Nat) (a1 : Option Addr) (l1 c1 b1 o1 : Nat) (z1 : List Nat) (w : World)
    (h : UintsAt w a l b o z) (h1 : UintsAt w a1 l1 b1 o1 z1) (hm : l ≤ maxLen) (hm1 : l1 ≤ maxLen) :
    Calls Trym.prog 3 #[.slice a l c, .slice a1 l1 c1] w (Good w) := by
  have HB : Hid (Calls Trym.prog 6 #[.slice a l c, .slice a1 l1 c1] w (SomeBool w)) := bytes_any a l c a1 l1 c1 w hm hm1
  unfold maxLen at hm hm1
  have H : Hid (UintsAt w a l b o z) := h
  have H1 : Hid (UintsAt w a1 l1 b1 o1 z1) := h1
  have HA1 : Hid (0 < l1 → a1 = some ⟨b1, o1, none⟩) := h1.addr
  obtain ⟨i0, hi, hz0, hz1, hz2⟩ := info_parts info24
  clear h h1
  go_enter Trym.func3, Trym.ntmps3
  go_wp2_with fail
  refine HB.out.mono ?_
  rintro e w' ⟨x, rfl, rfl⟩
  clear HB
  cases x
  case false =>
    go_wp2
    go_ret
    exact ⟨rfl, Below.refl _ _⟩
  case true =>
    by_cases g1 : 4096 < l
    · go_wp2
      go_ret
      exact ⟨rfl, Below.refl _ _⟩
    by_cases g2 : 4096 < l1
    · go_wp2
      go_ret
      exact ⟨rfl, Below.refl _ _⟩
    obtain ⟨n, hnl, hnl1, hor⟩ : ∃ n, n ≤ l ∧ n ≤ l1 ∧ (n = l1 ∧ l1 < l ∨ n = l ∧ ¬ l1 < l) := by
      by_cases hc : l1 < l
      · exact ⟨l1, by omega, by omega, Or.inl ⟨rfl, hc⟩⟩
      · exact ⟨l, by omega, by omega, Or.inr ⟨rfl, hc⟩⟩
    rcases hor with ⟨rfl, hc⟩ | ⟨rfl, hc⟩
    all_goals
      go_wp2
      go_loopg [6] n (fun g i wr => ∃ k : Nat, k ≤ n ∧ i = .int .i64 k ∧ g = n - k ∧ (∀ j, j < k → z1.getD j 0 ≤ 18446744073709551551) ∧ wr = w)
      case atStart => exact ⟨0, Nat.zero_le _, rfl, rfl, fun j hj => absurd hj (by omega), rfl⟩
      case round =>
        obtain ⟨k, hk, rfl, hg, hle, rfl⟩ := hrel
        have Hg : Hid (gk = n - k) := hg
        have Hle : Hid (∀ j, j < k → z1.getD j 0 ≤ 18446744073709551551) := hle
        clear hg hle
        by_cases hlt : k < n
        · have hx0 := fun w => run_at w (cap := c1) (i := k) Trym.underlying22 size24 HA1.out (by omega)
          obtain ⟨x, hx⟩ : ∃ x, z1.getD k 0 = x := ⟨_, rfl⟩
          have hd0 := H1.out.cell k (by omega)
          rw [hx] at hd0
          have HX : Hid (z1.getD k 0 = x) := hx
          clear hx
          by_cases hbig : 18446744073709551551 < x
          · go_wp2
            go_ret
            exact ⟨rfl, Below.refl _ _⟩
          · go_wp2
            go_roundg (n - (k + 1))
            case measure => rw [Hg.out]; omega
            case rel =>
              refine ⟨k + 1, hlt, by go_num, rfl, fun j hj => ?_, rfl⟩
              by_cases hjk : j = k
              · subst hjk; rw [HX.out]; omega
              · exact Hle.out j (by omega)
        · have hkn : n = k := by omega
          subst hkn
          clear Hg
          obtain ⟨w0, rfl⟩ : ∃ w0 : World, w0 = wr := ⟨_, rfl⟩
          go_wp2_with fail
          refine (clone_any _ _ c b o z w0 H.out (by omega)).mono ?_
          rintro e w1 ⟨a2, c2, b2, rfl, hU2, hb1⟩
          have HU1 : Hid (UintsAt w1 a2 _ b2 0 z) := hU2
          have H11 : Hid (UintsAt w1 a1 _ b1 o1 z1) := H1.out.below hb1 (fun h0 => H1.out.lt h0)
          have HB1 : Hid (Below w0.heap.size w0 w1) := hb1
          clear hU2 hb1
          go_wp2_with fail
          refine (clone_any _ _ c1 b1 o1 z1 w1 H11.out (by omega)).mono ?_
          rintro e w2 ⟨a3, c3, b3, rfl, hU3, hb2⟩
          have HU2 : Hid (UintsAt w2 a2 _ b2 0 z) := HU1.out.below hb2 (fun h0 => HU1.out.lt h0)
          have HU3 : Hid (UintsAt w2 a3 _ b3 0 z1) := hU3
          have HB2 : Hid (Below w1.heap.size w1 w2) := hb2
          have HA2 : Hid (0 < _ → a2 = some ⟨b2, 0, none⟩) := HU2.out.addr
          have HA3 : Hid (0 < _ → a3 = some ⟨b3, 0, none⟩) := HU3.out.addr
          clear hU3 hb2 HU1 H11
          go_wp2_with (at_make; refine wpList_make_own _ rfl _ _ 22 rfl w2.heap.size 24 i0 (.int .u64 0) 1 Trym.underlying22 hi hz0 hz1 _ _ _ n rfl rfl rfl (by rw [hz2]; omega) (by unfold maxLen; omega) (Nat.le_refl _) ?_; intro w3 hown3 hgrow3)
          have HS3 : Hid (Seen w3 w2.heap.size n [] ∧ Below w2.heap.size w2 w3) := ⟨hown3, (Below.refl _ _).grown hgrow3 (Nat.le_refl _) (fun k hk => by cases hk)⟩
          clear hown3 hgrow3
          go_loopg [7, 8, 9, 10, 11, 12, 13] n (fun g v7 v8 v9 v10 v11 v12 i wr => ∃ (k cc t B : Nat) (S : List Nat), k ≤ n ∧ i = .int .i64 k ∧ g = n - k ∧ v7 = .int .u64 (cc : Int) ∧ v10 = .int .u64 (cc : Int) ∧ v8 = .int .u64 (t : Int) ∧ v11 = .int .u64 (t : Int) ∧ v9 = .int .u64 (B : Int) ∧
            v12 = .slice (some ⟨w2.heap.size, 0, none⟩) S.length n ∧ S.length ≤ k ∧ Inv t B S ∧ Seen wr w2.heap.size n S ∧ Below w2.heap.size w2 wr)
          case atStart => exact ⟨0, 0, 0, 0, [], Nat.zero_le _, rfl, rfl, rfl, rfl, rfl, rfl, rfl, rfl, Nat.le_refl _, inv_start, HS3.out.1, HS3.out.2⟩
          case round =>
            clear HS3
            obtain ⟨k, cc, t, B, S, hk, rfl, hg, rfl, rfl, rfl, rfl, rfl, rfl, hSk, hinv, hseen, hb⟩ := hrel
            have Hg : Hid (gk = n - k) := hg
            clear hg
            by_cases hlt : k < n
            · have hx0 := fun w => run_at w (cap := c2) (i := k) Trym.underlying22 size24 HA2.out (by omega)
              have hx1 := fun w => run_at w (cap := c3) (i := k) Trym.underlying22 size24 HA3.out (by omega)
              simp only [Nat.zero_add] at hx0 hx1
              obtain ⟨x, hx⟩ : ∃ x, z.getD k 0 = x := ⟨_, rfl⟩
              obtain ⟨s, hs⟩ : ∃ s, z1.getD k 0 = s := ⟨_, rfl⟩
              have hd0 : wr.cell? ⟨b2, k, none⟩ = some (.int .u64 (x : Int)) := by
                have e := HU2.out.cell k (by omega)
                rw [Nat.zero_add, hx] at e
                exact (hb.cell (p := ⟨b2, k, none⟩) (HU2.out.lt (by omega))).trans e
              have hd1 : wr.cell? ⟨b3, k, none⟩ = some (.int .u64 (s : Int)) := by
                have e := HU3.out.cell k (by omega)
                rw [Nat.zero_add, hs] at e
                exact (hb.cell (p := ⟨b3, k, none⟩) (HU3.out.lt (by omega))).trans e
              have hsm : s ≤ 18446744073709551551 := by rw [← hs]; exact Hle.out k hlt
              have hsz := hb.size
              have hn0 : 0 < n := by omega
              have hwS : Hid (∀ x ∈ S, x < 18446744073709551616) := fun x hx => by have e1 := hinv.below x hx; have e2 := hinv.top; omega
              have hT := hinv.top
              have HV : Hid (Inv t B S) := hinv
              have HSe : Hid (Seen wr w2.heap.size n S) := hseen
              have HBr : Hid (Below w2.heap.size w2 wr) := hb
              clear hx hs hinv hseen hb
              rcases (show cc < x ∨ x < cc ∨ x = cc from by omega) with hxc | hxc | hxc
              · -- a later incarnation
                go_wp2_with (at_builtin; refine wpList_append_fits _ rfl _ _ 22 rfl w2.heap.size 24 i0 1 Trym.underlying22 hi hz1 w2.heap.size 0 n [] rfl (HSe.out.none.alloc _) ⟨wr.heap.size, 0, none⟩ 1 1 [.int .u64 (s : Int)] rfl rfl (cell_one_new _ _ _) (ints_oneCell .u64 [(s : Int)]) (by omega) ?_; intro w4 hown4 hgrow4)
                have HS4 : Hid (Seen w4 w2.heap.size n [s] ∧ Below w2.heap.size w2 w4) := ⟨hown4, (HBr.out.alloc hsz _).grown hgrow4 (by simp; omega) (fun k hk => by cases hk; exact Nat.le_refl _)⟩
                clear hown4 hgrow4
                refine (zztake cc t B x s true x s (put 0 s) w4 (fun g w h => take_new g cc t B x s w h hxc)).mono ?_
                rintro e w5 ⟨rfl, hb5⟩
                have HB5 : Hid (Below w4.heap.size w4 w5) := hb5
                clear hb5
                go_wp2
                go_roundg (n - (k + 1))
                case measure => rw [Hg.out]; omega
                case rel => exact ⟨k + 1, x, s, put 0 s, [s], hlt, by go_num, rfl, rfl, rfl, rfl, rfl, rfl, rfl, by simp, inv_new s hsm, HS4.out.1.below HB5.out, HS4.out.2.trans (HB5.out.mono HS4.out.2.size)⟩
              · -- an earlier one
                go_wp2_with fail
                refine (zztake cc t B x s false cc t B wr (fun g w h => take_old g cc t B x s w h hxc)).mono ?_
                rintro e w5 ⟨rfl, hb5⟩
                have HB5 : Hid (Below wr.heap.size wr w5) := hb5
                clear hb5
                go_wp2
                go_roundg (n - (k + 1))
                case measure => rw [Hg.out]; omega
                case rel => exact ⟨k + 1, cc, t, B, S, hlt, by go_num, rfl, rfl, rfl, rfl, rfl, rfl, rfl, by omega, HV.out, HSe.out.below HB5.out, HBr.out.trans (HB5.out.mono HBr.out.size)⟩
              · subst hxc
                by_cases hold : s + 64 ≤ t
                · -- too old
                  go_wp2_with fail
                  refine (zztake x t B x s false x t B wr (fun g w h => take_far g x t B s w h (by omega) (by omega) (by omega))).mono ?_
                  rintro e w5 ⟨rfl, hb5⟩
                  have HB5 : Hid (Below wr.heap.size wr w5) := hb5
                  clear hb5
                  go_wp2
                  go_roundg (n - (k + 1))
                  case measure => rw [Hg.out]; omega
                  case rel => exact ⟨k + 1, x, t, B, S, hlt, by go_num, rfl, rfl, rfl, rfl, rfl, rfl, rfl, by omega, HV.out, HSe.out.below HB5.out, HBr.out.trans (HB5.out.mono HBr.out.size)⟩
                · have HCo : Hid (Calls Trym.prog 8 #[.slice (some ⟨w2.heap.size, 0, none⟩) S.length n, .int .u64 (s : Int)] wr fun e w' => e = .returned (.bool (decide (s ∈ S))) ∧ wr = w') := contains_any (some ⟨w2.heap.size, 0, none⟩) S.length n w2.heap.size 0 S s wr (HSe.out.uints hwS.out) (by omega)
                  by_cases hgt : t < s
                  · -- above the top
                    have hno : decide (s ∈ S) = false := decide_eq_false (fun hm => by have := HV.out.below s hm; omega)
                    rw [hno] at HCo
                    clear hno
                    go_wp2_with fail
                    refine HCo.out.mono ?_
                    rintro e w' ⟨rfl, rfl⟩
                    go_wp2_with (at_builtin; refine wpList_append_fits _ rfl _ _ 22 rfl w2.heap.size 24 i0 1 Trym.underlying22 hi hz1 w2.heap.size S.length n (vals S) rfl (HSe.out.alloc _) ⟨wr.heap.size, 0, none⟩ 1 1 [.int .u64 (s : Int)] rfl rfl (cell_one_new _ _ _) (ints_oneCell .u64 [(s : Int)]) (by omega) ?_; intro w4 hown4 hgrow4)
                    have HS4 : Hid (Seen w4 w2.heap.size n (S ++ [s]) ∧ Below w2.heap.size w2 w4) := ⟨by
                      unfold Seen
                      rw [← vals_snoc, List.length_append]
                      exact hown4, (HBr.out.alloc hsz _).grown hgrow4 (by simp; omega) (fun k hk => by cases hk; exact Nat.le_refl _)⟩
                    clear hown4 hgrow4
                    refine (zztake x t B x s true x s (put (clrTo t B (min (s - t) 64)) s) w4 (fun g w h => take_high g x t B s w h hgt hsm HV.out.lt)).mono ?_
                    rintro e w5 ⟨rfl, hb5⟩
                    have HB5 : Hid (Below w4.heap.size w4 w5) := hb5
                    clear hb5
                    go_wp2
                    go_roundg (n - (k + 1))
                    case measure => rw [Hg.out]; omega
                    case rel => exact ⟨k + 1, x, s, put (clrTo t B (min (s - t) 64)) s, S ++ [s], hlt, by go_num, rfl, rfl, rfl, rfl, rfl, rfl, by rw [List.length_append]; rfl, by rw [List.length_append]; exact Nat.succ_le_succ hSk, inv_high HV.out hgt hsm, HS4.out.1.below HB5.out, HS4.out.2.trans (HB5.out.mono HS4.out.2.size)⟩
                  · rcases (show s < t ∨ ¬ s < t from by omega) with hst | hst
                    all_goals
                      have hdd : decide ((64 : Int) ≤ (t : Int) - (s : Int)) = false := decide_eq_false (by omega)
                      by_cases hin : s ∈ S
                      · -- taken before
                        have hyes : decide (s ∈ S) = true := decide_eq_true hin
                        rw [hyes] at HCo
                        have Hin : Hid (s ∈ S) := hin
                        clear hyes hin
                        go_wp2_with fail
                        refine HCo.out.mono ?_
                        rintro e w' ⟨rfl, rfl⟩
                        go_wp2_with fail
                        refine (zztake x t B x s false x t B wr (fun g w h => take_seen g x t B s w h (by omega) (by omega) (by omega) HV.out.lt ((HV.out.mark s (by omega) (by omega)).2 Hin.out))).mono ?_
                        rintro e w5 ⟨rfl, hb5⟩
                        have HB5 : Hid (Below wr.heap.size wr w5) := hb5
                        clear hb5
                        go_wp2
                        go_roundg (n - (k + 1))
                        case measure => rw [Hg.out]; omega
                        case rel => exact ⟨k + 1, x, t, B, S, hlt, by go_num, rfl, rfl, rfl, rfl, rfl, rfl, rfl, by omega, HV.out, HSe.out.below HB5.out, HBr.out.trans (HB5.out.mono HBr.out.size)⟩
                      · -- within the window, not yet taken
                        have hno : decide (s ∈ S) = false := decide_eq_false hin
                        rw [hno] at HCo
                        have Hin : Hid (¬ s ∈ S) := hin
                        clear hno hin
                        go_wp2_with fail
                        refine HCo.out.mono ?_
                        rintro e w' ⟨rfl, rfl⟩
                        go_wp2_with (at_builtin; refine wpList_append_fits _ rfl _ _ 22 rfl w2.heap.size 24 i0 1 Trym.underlying22 hi hz1 w2.heap.size S.length n (vals S) rfl (HSe.out.alloc _) ⟨wr.heap.size, 0, none⟩ 1 1 [.int .u64 (s : Int)] rfl rfl (cell_one_new _ _ _) (ints_oneCell .u64 [(s : Int)]) (by omega) ?_; intro w4 hown4 hgrow4)
                        have HS4 : Hid (Seen w4 w2.heap.size n (S ++ [s]) ∧ Below w2.heap.size w2 w4) := ⟨by
                          unfold Seen
                          rw [← vals_snoc, List.length_append]
                          exact hown4, (HBr.out.alloc hsz _).grown hgrow4 (by simp; omega) (fun k hk => by cases hk; exact Nat.le_refl _)⟩
                        clear hown4 hgrow4
                        refine (zztake x t B x s true x t (put B s) w4 (fun g w h => take_low g x t B s w h (by omega) (by omega) (by omega) HV.out.lt (by
                          cases hq : B.testBit (s % 64)
                          · rfl
                          · exact absurd ((HV.out.mark s (by omega) (by omega)).1 hq) Hin.out))).mono ?_
                        rintro e w5 ⟨rfl, hb5⟩
                        have HB5 : Hid (Below w4.heap.size w4 w5) := hb5
                        clear hb5
                        go_wp2
                        go_roundg (n - (k + 1))
                        case measure => rw [Hg.out]; omega
                        case rel => exact ⟨k + 1, x, t, put B s, S ++ [s], hlt, by go_num, rfl, rfl, rfl, rfl, rfl, rfl, by rw [List.length_append]; rfl, by rw [List.length_append]; exact Nat.succ_le_succ hSk, inv_low HV.out (by omega) (by omega), HS4.out.1.below HB5.out, HS4.out.2.trans (HB5.out.mono HS4.out.2.size)⟩
            · go_wp2
              go_ret
              have s1 := HB1.out.size
              have s2 := HB2.out.size
              exact ⟨rfl, HB1.out.trans ((HB2.out.mono s1).trans (hb.mono (by omega)))⟩
end Go.Proofs.Qxb6001611aMods
