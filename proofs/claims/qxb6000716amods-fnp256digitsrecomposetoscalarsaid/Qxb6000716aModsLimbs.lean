import Derived.Test.Qxb6000716aModsDigits
namespace Go.Proofs.Qxb6000716aMods
open Go.RowKit

set_option maxRecDepth 100000 in
set_option maxHeartbeats 800000 in
theorem zzdigits_any (b off len cap : Nat) (zs : List Int) (w : World) (h : BytesAt w (some ⟨b, off, none⟩) len b off zs) (hlen : 32 ≤ len) (hm : len ≤ 1048576) :
    Calls Trym.prog 9 #[.slice (some ⟨b, off, none⟩) len cap] w (Digits w zs) := by
  have H : Hid (∀ o, BytesAt (w.alloc o) (some ⟨b, off, none⟩) len b off zs) := fun o => h.below (B := w.heap.size) ((Below.refl _ _).alloc (Nat.le_refl _) o) (fun h0 => h.lt h0)
  clear h
  go_enter Trym.func9, Trym.ntmps9
  go_wp2_with fail
  refine (digits_any b off len cap zs _ (H.out _) hlen hm).mono ?_
  rintro e w1 ⟨cur, rfl, hsz, hcur, hb⟩
  have hblk := (hb.block w.heap.size (by simp)).trans (heap_alloc_new w _)
  have hone : cur.all (·.oneCell') = true := by
    rw [Array.all_eq_true]
    intro i hi
    have h3 := hcur i (by rw [← hsz]; exact hi)
    rw [Array.getElem?_eq_getElem hi] at h3
    rw [Option.some.inj h3]
    rfl
  have HW : Hid (cur.size = 43 ∧ (∀ i, i < 43 → cur[i]? = some (.int .i64 (dig (scal zs) i))) ∧ Below w.heap.size w w1) := ⟨hsz, hcur, ((Below.refl _ _).alloc (Nat.le_refl _) _).trans (hb.mono (by simp))⟩
  have HBk : Hid _ := hblk
  clear hsz hcur hb hblk
  go_wp2_with (refine wpList_store_row rfl 24 _ _ rfl w.heap.size cur rfl rfl 24 _ HBk (by rw [HW.out.1]; exact cells24) (by rw [HW.out.1]; rfl) hone ?_)
  exact bodyPost_ret (v := .agg cur) (results_cell_row Trym.results9 _ _ w.heap.size 24 cur (0, 0) _ rfl (setRow_heap w1 w.heap.size _ cur 24 (0, 0) HBk) Trym.underlying24 rfl (by rw [HW.out.1]; exact cells24)) rfl
    ⟨cur, rfl, HW.out.1, HW.out.2.1, below_setRow HW.out.2.2 (Nat.le_refl _) cur⟩

/-- Limb k of N. -/
def lim (N k : Nat) : Nat := N / 2 ^ (64 * k) % 2 ^ 64
def Limbs (w : World) (zs : List Int) (e : Ending) (w' : World) : Prop :=
  e = .returned (.agg #[.int .u64 (lim (scal zs) 0 : Int), .int .u64 (lim (scal zs) 1 : Int), .int .u64 (lim (scal zs) 2 : Int), .int .u64 (lim (scal zs) 3 : Int)]) ∧ Below w.heap.size w w'
/-- The limb's head after j bytes. -/
def part (N k j : Nat) : Nat := N / 2 ^ (64 * k + 64 - 8 * j) % 2 ^ (8 * j)
def LSoFar (wr : World) (g : Nat) (zs : List Int) (k : Nat) (cur : Array Value) : Prop :=
  wr.heap[g]? = some (.cells cur 27 (0, 0)) ∧ cur.size = 4 ∧ ∀ i, i < k → cur[i]? = some (.int .u64 (lim (scal zs) i : Int))
def LSlot (wr : World) (g : Nat) : Prop := ∃ c : Array Value, wr.heap[g]? = some (.cells c 27 (0, 0)) ∧ c.size = 4

theorem or_val (d x : Nat) (hd : d < 2 ^ 56) (hx : x ≤ 255) : bits BinOp.or IntKind.u64 (IntKind.u64.wrap ((d : Int) * 256)) (x : Int) = ((d * 256 + x : Nat) : Int) := by
  have e : IntKind.u64.wrap ((d : Int) * 256) = ((d * 256 : Nat) : Int) := by
    rw [IntKind.wrap_u64]
    omega
  rw [e, u64_or_nat (d * 256) x (by omega) (by omega), nat_join 8 (d * 256) x (by simp) (by omega)]
theorem part_succ (N k m : Nat) (hm : m < 8) : part N k (m + 1) = part N k m * 256 + N / 256 ^ (7 + 8 * k - m) % 256 := by
  unfold part
  have e1 : (256 : Nat) ^ (7 + 8 * k - m) = 2 ^ (64 * k + 64 - 8 * (m + 1)) := by
    rw [show (256 : Nat) = 2 ^ 8 from rfl, ← Nat.pow_mul]
    congr 1
    omega
  have e2 : 2 ^ (64 * k + 64 - 8 * m) = 2 ^ (64 * k + 64 - 8 * (m + 1)) * 256 := by
    rw [show (256 : Nat) = 2 ^ 8 from rfl, ← Nat.pow_add]
    congr 1
    omega
  have e3 : 2 ^ (8 * (m + 1)) = 256 * 2 ^ (8 * m) := by
    rw [show (256 : Nat) = 2 ^ 8 from rfl, ← Nat.pow_add]
    congr 1
    omega
  rw [e1, e2, e3, ← Nat.div_div_eq_div_mul, Nat.mod_mul]
  omega
theorem part_lt (N k m : Nat) (hm : m < 8) : part N k m < 2 ^ 56 :=
  Nat.lt_of_lt_of_le (Nat.mod_lt _ (Nat.two_pow_pos _)) (Nat.pow_le_pow_right (by decide) (by omega))
theorem part_all (N k : Nat) : part N k 8 = lim N k := rfl

theorem LSoFar.store {wr : World} {g : Nat} {zs : List Int} {k : Nat} {cur : Array Value} (h : LSoFar wr g zs k cur) (hk : k < 4) {d : Nat} (hd : d = lim (scal zs) k) : LSoFar (wr.setCell ⟨g, k, none⟩ (.int .u64 (d : Int))) g zs (k + 1) (cur.setIfInBounds k (.int .u64 (d : Int))) := by
  obtain ⟨h1, h2, h3⟩ := h
  refine ⟨heap_setCell_same wr g k cur 27 _ h1, by simpa using h2, fun i hi => ?_⟩
  rw [Array.getElem?_setIfInBounds]
  by_cases hik : k = i
  · subst hik
    rw [if_pos rfl, if_pos (by omega), hd]
  · rw [if_neg hik]
    exact h3 i (by omega)
theorem LSlot.store {wr : World} {g g' k : Nat} {v : Value} (h : LSlot wr g) (hne : g ≠ g') : LSlot (wr.setCell ⟨g', k, none⟩ v) g := by
  obtain ⟨c, h1, h2⟩ := h
  exact ⟨c, by rw [heap_setCell_other _ _ _ _ hne]; exact h1, h2⟩
theorem LSoFar.cell {wr : World} {g : Nat} {zs : List Int} {k : Nat} {cur : Array Value} (h : LSoFar wr g zs k cur) {j : Nat} (hj : j < 4) : ∃ v, wr.cell? ⟨g, j, none⟩ = some v := by
  rw [cell_of_row wr g j cur 27 (0, 0) h.1]
  exact ⟨_, Array.getElem?_eq_getElem (by rw [h.2.1]; exact hj)⟩
theorem LSoFar.one {wr : World} {g : Nat} {zs : List Int} {cur : Array Value} (h : LSoFar wr g zs 4 cur) : cur.all (·.oneCell') = true := by
  rw [Array.all_eq_true]
  intro i hi
  have h3 := h.2.2 i (by rw [← h.2.1]; exact hi)
  rw [Array.getElem?_eq_getElem hi] at h3
  rw [Option.some.inj h3]
  rfl
theorem LSoFar.all {wr : World} {g : Nat} {zs : List Int} {cur : Array Value} (h : LSoFar wr g zs 4 cur) : cur = #[.int .u64 (lim (scal zs) 0 : Int), .int .u64 (lim (scal zs) 1 : Int), .int .u64 (lim (scal zs) 2 : Int), .int .u64 (lim (scal zs) 3 : Int)] := by
  apply Array.ext_getElem?
  intro i
  match i with
  | 0 => rw [h.2.2 0 (by omega)]; rfl
  | 1 => rw [h.2.2 1 (by omega)]; rfl
  | 2 => rw [h.2.2 2 (by omega)]; rfl
  | 3 => rw [h.2.2 3 (by omega)]; rfl
  | i + 4 => rw [Array.getElem?_eq_none (by rw [h.2.1]; omega)]; simp

set_option maxRecDepth 100000 in
set_option maxHeartbeats 1600000 in
theorem limbs_any (b off len cap : Nat) (zs : List Int) (w : World) (h : BytesAt w (some ⟨b, off, none⟩) len b off zs) (hlen : 32 ≤ len) (hm : len ≤ 1048576) :
    Calls Trym.prog 10 #[.slice (some ⟨b, off, none⟩) len cap] w (Limbs w zs) := by
  have H : Hid (BytesAt w (some ⟨b, off, none⟩) len b off zs) := h
  clear h
  go_enter Trym.func10, Trym.ntmps10
  go_wp2
  go_loopg [4] 4 (fun g i wr => ∃ k : Nat, k ≤ 4 ∧ i = .int .i64 k ∧ g = 4 - k ∧ (∃ cur, LSoFar wr (w.heap.size + 1) zs k cur) ∧ LSlot wr w.heap.size ∧ Below w.heap.size w wr)
  case atStart =>
    exact ⟨0, Nat.zero_le _, rfl, rfl, ⟨_, heap_alloc2_new w _ _, rfl, fun i hi => absurd hi (by omega)⟩, ⟨_, heap_alloc2_old w _ _, rfl⟩, ((Below.refl _ _).alloc (Nat.le_refl _) _).alloc (by simp) _⟩
  case round =>
    obtain ⟨k, hk, rfl, hg, ⟨cur, hcur⟩, hslot, hb⟩ := hrel
    have Hg : Hid (gk = 4 - k) := hg
    have HW : Hid (LSoFar wr (w.heap.size + 1) zs k cur ∧ LSlot wr w.heap.size ∧ Below w.heap.size w wr) := ⟨hcur, hslot, hb⟩
    clear hg hcur hslot hb
    by_cases hlt : k < 4
    · obtain ⟨wo, rfl⟩ : ∃ wo : World, wo = wr := ⟨_, rfl⟩
      go_wp2
      go_loopg [5, 6] 8 (fun g d j wx => ∃ m : Nat, m ≤ 8 ∧ j = .int .i64 m ∧ g = 8 - m ∧ d = .int .u64 (part (scal zs) k m : Int) ∧ wx = wo)
      case atStart => exact ⟨0, Nat.zero_le _, rfl, rfl, by simp [part, Nat.mod_one], rfl⟩
      case round =>
        obtain ⟨m, hm8, rfl, hg, rfl, rfl⟩ := hrel
        have Hg' : Hid (gk = 8 - m) := hg
        clear hg
        obtain ⟨d, hd⟩ : ∃ d, part (scal zs) k m = d := ⟨_, rfl⟩
        have HD : Hid (part (scal zs) k m = d) := hd
        rw [hd]
        clear hd
        by_cases hlm : m < 8
        · have hcell : wr.cell? ⟨b, off + (24 - 8 * k + m), none⟩ = some (.int .u8 (zs.getD (24 - 8 * k + m) 0)) := (HW.out.2.2.cell (p := ⟨b, off + (24 - 8 * k + m), none⟩) (H.out.lt (by omega))).trans (H.out.cell _ (by omega))
          have hx := scal_byte H.out.wf (q := 7 + 8 * k - m) (by omega)
          obtain ⟨x, hx'⟩ : ∃ x, scal zs / 256 ^ (7 + 8 * k - m) % 256 = x := ⟨_, rfl⟩
          have hxb : x ≤ 255 := by rw [← hx']; omega
          have HX : Hid (scal zs / 256 ^ (7 + 8 * k - m) % 256 = x) := hx'
          rw [show 31 - (7 + 8 * k - m) = 24 - 8 * k + m from by omega] at hx
          rw [hx, hx'] at hcell
          clear hx hx'
          have HV : Hid (bits BinOp.or IntKind.u64 (IntKind.u64.wrap ((d : Int) * 256)) (x : Int) = (part (scal zs) k (m + 1) : Int)) := by
            show _ = _
            rw [or_val d x (by rw [← HD.out]; exact part_lt _ _ _ hlm) hxb, part_succ _ _ _ hlm, HD.out, HX.out]
          go_wp2
          go_roundg (8 - (m + 1))
          case measure => rw [Hg'.out]; omega
          case rel => exact ⟨m + 1, hlm, by go_num, rfl, by rw [HV.out], rfl⟩
        · obtain ⟨v0, hv0⟩ := HW.out.1.cell hlt
          have hfr := frozen_of_row wr (w.heap.size + 1) k cur 27 HW.out.1.1
          have HE : Hid (d = lim (scal zs) k) := by
            show _ = _
            rw [← HD.out, show m = 8 from by omega]
            rfl
          go_wp2
          go_roundg (4 - (k + 1))
          case measure => rw [Hg.out]; omega
          case rel => exact ⟨k + 1, hlt, by go_num, rfl, ⟨_, HW.out.1.store hlt HE.out⟩, HW.out.2.1.store (by omega), HW.out.2.2.setCell (by simp) _⟩
    · have hk4 : k = 4 := by omega
      subst hk4
      obtain ⟨cs, hs1, hs2⟩ := HW.out.2.1
      have h27 := HW.out.1
      have hone : cur.all (·.oneCell') = true := HW.out.1.one
      go_wp2_with (first
        | (refine wpList_load_row rfl 27 _ rfl (w.heap.size + 1) rfl 27 cur (0, 0) _ h27.1 Trym.underlying27 rfl (by rw [h27.2.1]; exact cells27) ?_)
        | (refine wpList_store_row rfl 27 _ _ rfl w.heap.size cur rfl rfl 27 cs hs1 (by rw [h27.2.1]; exact cells27) (by rw [hs2, h27.2.1]) hone ?_))
      exact bodyPost_ret (v := .agg cur) (results_cell_row Trym.results10 _ _ w.heap.size 27 cur (0, 0) _ rfl (setRow_heap wr w.heap.size cs cur 27 (0, 0) hs1) Trym.underlying27 rfl (by rw [h27.2.1]; exact cells27)) rfl
        ⟨by rw [HW.out.1.all], below_setRow HW.out.2.2 (Nat.le_refl _) _⟩
end Go.Proofs.Qxb6000716aMods
