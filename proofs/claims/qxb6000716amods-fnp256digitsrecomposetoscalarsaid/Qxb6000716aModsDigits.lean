import Derived.Test.Qxb6000716aModsBase
namespace Go.Proofs.Qxb6000716aMods
open Go.RowKit

/-- What the digits' call leaves: an array of the 43 digits. -/
def Digits (w : World) (zs : List Int) (e : Ending) (w' : World) : Prop :=
  ∃ cur : Array Value, e = .returned (.agg cur) ∧ cur.size = 43 ∧ (∀ i, i < 43 → cur[i]? = some (.int .i64 (dig (scal zs) i))) ∧ Below w.heap.size w w'

/-- The array while the loop runs. -/
def SoFar (wr : World) (g : Nat) (zs : List Int) (k : Nat) (cur : Array Value) : Prop :=
  wr.heap[g]? = some (.cells cur 24 (0, 0)) ∧ cur.size = 43 ∧ ∀ i, i < k → cur[i]? = some (.int .i64 (dig (scal zs) i))
def Slot (wr : World) (g : Nat) : Prop := ∃ c : Array Value, wr.heap[g]? = some (.cells c 24 (0, 0)) ∧ c.size = 43

theorem bit_val (x d r m : Nat) (hx : x ≤ 255) (hd : d ≤ 65) (hm : m < 6) :
    wrap64 ((d : Int) + wrap64 (wrap64 (bits BinOp.and IntKind.u8 ((x : Int) / 2 ^ r) 1) * 2 ^ m)) = ((d + x / 2 ^ r % 2 * 2 ^ m : Nat) : Int) := by
  have h1 : (x : Int) / 2 ^ r = ((x / 2 ^ r : Nat) : Int) := by simp
  have h2 : x / 2 ^ r ≤ x := Nat.div_le_self _ _
  have h3 : bits BinOp.and IntKind.u8 ((x : Int) / 2 ^ r) 1 = ((x / 2 ^ r % 2 : Nat) : Int) := by
    rw [h1]
    have := u8_and_nat (x / 2 ^ r) 1 (by omega) (by omega)
    rw [nat_mask1] at this
    exact this
  have h4 : 2 ^ m ≤ 2 ^ 5 := Nat.pow_le_pow_right (by decide) (by omega)
  have h5 : x / 2 ^ r % 2 < 2 := Nat.mod_lt _ (by decide)
  have h6 : x / 2 ^ r % 2 * 2 ^ m ≤ 1 * 2 ^ 5 := Nat.mul_le_mul (by omega) h4
  have h7 : ((x / 2 ^ r % 2 : Nat) : Int) * 2 ^ m = ((x / 2 ^ r % 2 * 2 ^ m : Nat) : Int) := by simp
  rw [h3, IntWalk.wrap64_in ((x / 2 ^ r % 2 : Nat) : Int) ⟨by omega, by omega⟩, h7, IntWalk.wrap64_in ((x / 2 ^ r % 2 * 2 ^ m : Nat) : Int) ⟨by omega, by omega⟩, IntWalk.wrap64_in _ ⟨by omega, by omega⟩]
  omega

theorem SoFar.store {wr : World} {g : Nat} {zs : List Int} {k : Nat} {cur : Array Value} (h : SoFar wr g zs k cur) (hk : k < 43) {d : Int} (hd : d = dig (scal zs) k) : SoFar (wr.setCell ⟨g, k, none⟩ (.int .i64 d)) g zs (k + 1) (cur.setIfInBounds k (.int .i64 d)) := by
  obtain ⟨h1, h2, h3⟩ := h
  refine ⟨heap_setCell_same wr g k cur 24 _ h1, by simpa using h2, fun i hi => ?_⟩
  rw [Array.getElem?_setIfInBounds]
  by_cases hik : k = i
  · subst hik
    rw [if_pos rfl, if_pos (by omega), hd]
  · rw [if_neg hik]
    exact h3 i (by omega)
theorem Slot.store {wr : World} {g g' k : Nat} {v : Value} (h : Slot wr g) (hne : g ≠ g') : Slot (wr.setCell ⟨g', k, none⟩ v) g := by
  obtain ⟨c, h1, h2⟩ := h
  exact ⟨c, by rw [heap_setCell_other _ _ _ _ hne]; exact h1, h2⟩
theorem SoFar.cell {wr : World} {g : Nat} {zs : List Int} {k : Nat} {cur : Array Value} (h : SoFar wr g zs k cur) {j : Nat} (hj : j < 43) : ∃ v, wr.cell? ⟨g, j, none⟩ = some v := by
  rw [cell_of_row wr g j cur 24 (0, 0) h.1]
  exact ⟨_, Array.getElem?_eq_getElem (by rw [h.2.1]; exact hj)⟩

theorem SoFar.one {wr : World} {g : Nat} {zs : List Int} {cur : Array Value} (h : SoFar wr g zs 43 cur) : cur.all (·.oneCell') = true := by
  rw [Array.all_eq_true]
  intro i hi
  have h3 := h.2.2 i (by rw [← h.2.1]; exact hi)
  rw [Array.getElem?_eq_getElem hi] at h3
  rw [Option.some.inj h3]
  rfl
theorem below_setRow {B : Nat} {w wr : World} (h : Below B w wr) {g : Nat} (hg : B ≤ g) (cs : Array Value) : Below B w (wr.setRow g cs) :=
  h.trans ⟨rfl, rfl, rfl, by simp, fun k hk => setRow_other wr g k cs (by omega)⟩

set_option maxRecDepth 100000 in
set_option maxHeartbeats 1600000 in
theorem digits_any (b off len cap : Nat) (zs : List Int) (w : World) (h : BytesAt w (some ⟨b, off, none⟩) len b off zs) (hlen : 32 ≤ len) (hm : len ≤ 1048576) :
    Calls Trym.prog 18 #[.slice (some ⟨b, off, none⟩) len cap] w (Digits w zs) := by
  have H : Hid (BytesAt w (some ⟨b, off, none⟩) len b off zs) := h
  clear h
  go_enter Trym.func18, Trym.ntmps18
  go_wp2
  go_loopg [4, 9] 43 (fun g c i wr => ∃ k : Nat, k ≤ 43 ∧ i = .int .i64 k ∧ g = 43 - k ∧ c = .int .i64 (cy (scal zs) k : Int) ∧ (∃ cur, SoFar wr (w.heap.size + 1) zs k cur) ∧ Slot wr w.heap.size ∧ Below w.heap.size w wr)
  case atStart =>
    exact ⟨0, Nat.zero_le _, rfl, rfl, rfl, ⟨_, heap_alloc2_new w _ _, rfl, fun i hi => absurd hi (by omega)⟩, ⟨_, heap_alloc2_old w _ _, rfl⟩, ((Below.refl _ _).alloc (Nat.le_refl _) _).alloc (by simp) _⟩
  case round =>
    obtain ⟨k, hk, rfl, hg, rfl, ⟨cur, hcur⟩, hslot, hb⟩ := hrel
    have Hg : Hid (gk = 43 - k) := hg
    have HW : Hid (SoFar wr (w.heap.size + 1) zs k cur ∧ Slot wr w.heap.size ∧ Below w.heap.size w wr) := ⟨hcur, hslot, hb⟩
    clear hg hcur hslot hb
    obtain ⟨c, hc⟩ : ∃ c, cy (scal zs) k = c := ⟨_, rfl⟩
    have hc1 : c ≤ 1 := by rw [← hc]; exact cy_le _ _
    have HC : Hid (cy (scal zs) k = c) := hc
    rw [hc]
    clear hc
    by_cases hlt : k < 43
    · obtain ⟨wo, rfl⟩ : ∃ wo : World, wo = wr := ⟨_, rfl⟩
      go_wp2
      go_loopg [6, 13] 6 (fun g d j wx => ∃ m : Nat, m ≤ 6 ∧ j = .int .i64 m ∧ g = 6 - m ∧ d = .int .i64 ((c + scal zs / 2 ^ (6 * k) % 2 ^ m : Nat) : Int) ∧ wx = wo)
      case atStart => exact ⟨0, Nat.zero_le _, rfl, rfl, by simp [Nat.mod_one], rfl⟩
      case round =>
        obtain ⟨m, hm6, rfl, hg, rfl, rfl⟩ := hrel
        have Hg' : Hid (gk = 6 - m) := hg
        clear hg
        obtain ⟨d, hd⟩ : ∃ d, c + scal zs / 2 ^ (6 * k) % 2 ^ m = d := ⟨_, rfl⟩
        have hdb : d ≤ 65 := by
          have : scal zs / 2 ^ (6 * k) % 2 ^ m < 2 ^ m := Nat.mod_lt _ (Nat.two_pow_pos _)
          have : 2 ^ m ≤ 2 ^ 6 := Nat.pow_le_pow_right (by decide) hm6
          omega
        have HD : Hid (c + scal zs / 2 ^ (6 * k) % 2 ^ m = d) := hd
        rw [hd]
        clear hd
        by_cases hlm : m < 6
        · by_cases hbit : k * 6 + m < 256
          · have hcell : wr.cell? ⟨b, off + (31 - (k * 6 + m) / 8), none⟩ = some (.int .u8 (zs.getD (31 - (k * 6 + m) / 8) 0)) := (HW.out.2.2.cell (p := ⟨b, off + (31 - (k * 6 + m) / 8), none⟩) (H.out.lt (by omega))).trans (H.out.cell _ (by omega))
            have hx := scal_byte H.out.wf (q := (k * 6 + m) / 8) (by omega)
            obtain ⟨x, hx'⟩ : ∃ x, scal zs / 256 ^ ((k * 6 + m) / 8) % 256 = x := ⟨_, rfl⟩
            have hxb : x ≤ 255 := by rw [← hx']; omega
            have HX : Hid (scal zs / 256 ^ ((k * 6 + m) / 8) % 256 = x) := hx'
            rw [hx, hx'] at hcell
            clear hx hx'
            have HV : Hid (wrap64 ((d : Int) + wrap64 (wrap64 (bits BinOp.and IntKind.u8 ((x : Int) / 2 ^ ((k * 6 + m) % 8)) 1) * 2 ^ m)) = ((c + scal zs / 2 ^ (6 * k) % 2 ^ (m + 1) : Nat) : Int)) := by
              show _ = _
              rw [bit_val x d _ m hxb hdb hlm, ← HX.out, bit_of_byte _ _ _ (by omega), low_step, ← Nat.add_assoc, HD.out, show 8 * ((k * 6 + m) / 8) + (k * 6 + m) % 8 = 6 * k + m from by omega]
            go_wp2
            go_roundg (6 - (m + 1))
            case measure => rw [Hg'.out]; omega
            case rel => exact ⟨m + 1, hlm, by go_num, rfl, by rw [HV.out], rfl⟩
          · have HV : Hid (d = c + scal zs / 2 ^ (6 * k) % 2 ^ (m + 1)) := by
              show _ = _
              rw [low_past _ _ _ (scal_lt H.out.wf) (by omega), HD.out]
            go_wp2
            go_roundg (6 - (m + 1))
            case measure => rw [Hg'.out]; omega
            case rel => exact ⟨m + 1, hlm, by go_num, rfl, by rw [← HV.out], rfl⟩
        · obtain ⟨v0, hv0⟩ := HW.out.1.cell hlt
          have hfr := frozen_of_row wr (w.heap.size + 1) k cur 24 HW.out.1.1
          have HD6 : Hid (d = c + win (scal zs) k) := by
            show _ = _
            rw [← HD.out, show m = 6 from by omega]
            rfl
          by_cases hbig : 32 < d
          · have HE : Hid ((d : Int) - 64 = dig (scal zs) k ∧ cy (scal zs) (k + 1) = 1) := by
              have e1 : cy (scal zs) (k + 1) = 1 := cy_yes (by rw [HC.out, ← HD6.out]; exact hbig)
              refine ⟨?_, e1⟩
              unfold dig
              rw [e1, HC.out, HD6.out]
              simp
            go_wp2
            go_roundg (43 - (k + 1))
            case measure => rw [Hg.out]; omega
            case rel => exact ⟨k + 1, hlt, by go_num, rfl, by rw [HE.out.2]; rfl, ⟨_, HW.out.1.store hlt HE.out.1⟩, HW.out.2.1.store (by omega), HW.out.2.2.setCell (by simp) _⟩
          · have HE : Hid ((d : Int) = dig (scal zs) k ∧ cy (scal zs) (k + 1) = 0) := by
              have e1 : cy (scal zs) (k + 1) = 0 := cy_no (by rw [HC.out, ← HD6.out]; exact hbig)
              refine ⟨?_, e1⟩
              unfold dig
              rw [e1, HC.out, HD6.out]
              simp
            go_wp2
            go_roundg (43 - (k + 1))
            case measure => rw [Hg.out]; omega
            case rel => exact ⟨k + 1, hlt, by go_num, rfl, by rw [HE.out.2]; rfl, ⟨_, HW.out.1.store hlt HE.out.1⟩, HW.out.2.1.store (by omega), HW.out.2.2.setCell (by simp) _⟩
    · have hk43 : k = 43 := by omega
      subst hk43
      obtain ⟨cs, hs1, hs2⟩ := HW.out.2.1
      have h24 := HW.out.1
      go_wp2_with (first
        | (refine wpList_load_row rfl 24 _ rfl (w.heap.size + 1) rfl 24 cur (0, 0) _ h24.1 Trym.underlying24 rfl (by rw [h24.2.1]; exact cells24) ?_)
        | (refine wpList_store_row rfl 24 _ _ rfl w.heap.size cur rfl rfl 24 cs hs1 (by rw [h24.2.1]; exact cells24) (by rw [hs2, h24.2.1]) h24.one ?_))
      exact bodyPost_ret (v := .agg cur) (results_cell_row Trym.results18 _ _ w.heap.size 24 cur (0, 0) _ rfl (setRow_heap wr w.heap.size cs cur 24 (0, 0) hs1) Trym.underlying24 rfl (by rw [h24.2.1]; exact cells24)) rfl
        ⟨cur, rfl, h24.2.1, h24.2.2, below_setRow HW.out.2.2 (Nat.le_refl _) cur⟩
end Go.Proofs.Qxb6000716aMods
