import Derived.Test.Qxb6003613aModsClone
namespace Go.Proofs.Qxb6003613aMods
open Go.RowKit Go.Maps

/-- A slice of slices of int64 as a function is handed it. -/
structure RowsAt (w : World) (ao : Option Addr) (len b off : Nat) (A : Nat → Option Addr) (L C B O : Nat → Nat) (Z : Nat → List Int) : Prop where
  addr : 0 < len → ao = some ⟨b, off, none⟩
  lt : 0 < len → b < w.heap.size
  cell : ∀ i, i < len → w.cell? ⟨b, off + i, none⟩ = some (.slice (A i) (L i) (C i))
  row : ∀ i, i < len → IntsAt w (A i) (L i) (B i) (O i) (Z i)

theorem RowsAt.below {w w' : World} {ao : Option Addr} {len b off : Nat} {A : Nat → Option Addr} {L C B O : Nat → Nat} {Z : Nat → List Int} (h : RowsAt w ao len b off A L C B O Z) {N : Nat} (hb : Below N w w') (hN : w.heap.size ≤ N) : RowsAt w' ao len b off A L C B O Z :=
  ⟨h.addr, fun h0 => Nat.lt_of_lt_of_le (h.lt h0) hb.size, fun i hi => (hb.cell (p := ⟨b, off + i, none⟩) (by have := h.lt (by omega); show b < _; omega)).trans (h.cell i hi),
    fun i hi => (h.row i hi).below hb (fun h0 => by have := (h.row i hi).lt h0; omega)⟩

theorem grown_of_below {w w' : World} (h : Below w.heap.size w w') (row : Option Nat) : w.grownBy w' row := ⟨h.os, h.tape, h.output, h.size, fun k hk _ => h.block k hk⟩

theorem IntsAt.setCell {w : World} {ao : Option Addr} {len b off : Nat} {zs : List Int} (h : IntsAt w ao len b off zs) {a : Addr} (u : Value) (hne : 0 < len → b ≠ a.block) : IntsAt (w.setCell a u) ao len b off zs :=
  ⟨h.len_eq, h.addr, fun h0 => by have := h.lt h0; simpa [World.setCell] using this,
    fun i hi => (World.cell?_of_block (w := w) (a := ⟨b, off + i, none⟩) (Below.heap_setCell _ _ _ _ (hne (by omega)))).trans (h.cell i hi), h.wf⟩

/-- What 'zzBytes' leaves: some bool; nothing has turned. -/
def SomeBool (w : World) (e : Ending) (w' : World) : Prop := ∃ x, e = .returned (.bool x) ∧ w = w'

set_option maxHeartbeats 400000 in
theorem bytes_any (a : Option Addr) (len c b off : Nat) (A : Nat → Option Addr) (L C B O : Nat → Nat) (Z : Nat → List Int) (a1 : Option Addr) (l1 c1 : Nat) (w : World) (h : RowsAt w a len b off A L C B O Z) (hm : len ≤ maxLen) (hL : ∀ i, i < len → L i ≤ maxLen) (hm1 : l1 ≤ maxLen) :
    Calls Trym.prog 5 #[.slice a len c, .slice a1 l1 c1] w (SomeBool w) := by
  unfold maxLen at hm hm1
  have H : Hid (RowsAt w a len b off A L C B O Z) := h
  have HL : Hid (∀ i, i < len → L i ≤ maxLen) := hL
  have HA : Hid (0 < len → a = some ⟨b, off, none⟩) := h.addr
  clear h hL
  go_enter Trym.func5, Trym.ntmps5
  by_cases hbig : 1048576 < len
  · go_wp2
    go_ret
    exact ⟨_, rfl, rfl⟩
  · go_wp2
    go_loopg [5, 6] len (fun g n i wr => ∃ k m : Nat, k ≤ len ∧ m ≤ 1048576 ∧ n = .int .i64 m ∧ i = .int .i64 k ∧ g = len - k ∧ wr = w)
    case atStart => exact ⟨0, len, Nat.zero_le _, by omega, rfl, rfl, rfl, rfl⟩
    case round =>
      obtain ⟨k, m, hk, hmm, rfl, rfl, hg, rfl⟩ := hrel
      by_cases hlt : k < len
      · have hx0 := fun w => run_at w (cap := c) Trym.underlying22 size23 HA.out hlt
        have hd0 := H.out.cell k hlt
        have hLk := HL.out k hlt
        unfold maxLen at hLk
        have Hg : Hid (gk = len - k) := hg
        clear hg
        by_cases h1 : 1048576 < L k
        · go_wp2
          go_ret
          exact ⟨_, rfl, rfl⟩
        · by_cases h2 : 1048576 < m + L k
          · go_wp2
            go_ret
            exact ⟨_, rfl, rfl⟩
          · go_wp2
            go_roundg (len - (k + 1))
            case measure => rw [Hg.out]; omega
            case rel => exact ⟨k + 1, m + L k, hlt, by omega, by go_num, by go_num, rfl, rfl⟩
      · by_cases h1 : 1048576 < l1
        · go_wp2
          go_ret
          exact ⟨_, rfl, rfl⟩
        · by_cases h2 : 1048576 < m + l1
          · go_wp2
            go_ret
            exact ⟨_, rfl, rfl⟩
          · go_wp2
            go_ret
            exact ⟨_, rfl, rfl⟩

/-- What the deep copy leaves: a fresh slice of fresh slices of the same numbers. -/
def ClonedRuns (w : World) (len : Nat) (L : Nat → Nat) (Z : Nat → List Int) (e : Ending) (w' : World) : Prop :=
  ∃ a' c' b' A' C' B', e = .returned (.slice a' len c') ∧ RowsAt w' a' len b' 0 A' L C' B' (fun _ => 0) Z ∧ Below w.heap.size w w'

def RunsSoFar (N : Nat) (wr : World) (len : Nat) (L : Nat → Nat) (Z : Nat → List Int) (k : Nat) (xs : List Value) (A' : Nat → Option Addr) (C' B' : Nat → Nat) : Prop :=
  wr.ownsRow N 23 1 (.slice (some ⟨N, 0, none⟩) len len) len xs ∧ ∀ i, i < k → xs[i]? = some (.slice (A' i) (L i) (C' i)) ∧ IntsAt wr (A' i) (L i) (B' i) 0 (Z i) ∧ (0 < L i → N < B' i)

theorem RunsSoFar.lt {N : Nat} {wr : World} {len : Nat} {L : Nat → Nat} {Z : Nat → List Int} {k : Nat} {xs : List Value} {A' : Nat → Option Addr} {C' B' : Nat → Nat} (h : RunsSoFar N wr len L Z k xs A' C' B') : N < wr.heap.size := by
  rcases h.1.2 with ⟨h', _⟩ | ⟨g', cap', cur, h', _, hg, _⟩
  · simp at h'
  · simp only [Value.slice.injEq, Option.some.injEq, Addr.mk.injEq, and_true, true_and] at h'
    obtain ⟨rfl, rfl⟩ := h'
    exact (Array.getElem?_eq_some_iff.1 hg).1

theorem RunsSoFar.below {N : Nat} {wr w1 : World} {len : Nat} {L : Nat → Nat} {Z : Nat → List Int} {k : Nat} {xs : List Value} {A' : Nat → Option Addr} {C' B' : Nat → Nat} (h : RunsSoFar N wr len L Z k xs A' C' B') (hb : Below wr.heap.size wr w1) : RunsSoFar N w1 len L Z k xs A' C' B' := by
  refine ⟨?_, fun i hi => ⟨(h.2 i hi).1, (h.2 i hi).2.1.below hb (fun h0 => (h.2 i hi).2.1.lt h0), (h.2 i hi).2.2⟩⟩
  obtain ⟨h1, h2⟩ := h.1
  refine ⟨h1, ?_⟩
  rcases h2 with ⟨h', _⟩ | ⟨g', cap', cur, h', hbg, hg, r⟩
  · simp at h'
  · exact Or.inr ⟨g', cap', cur, h', hbg, (hb.block g' (Array.getElem?_eq_some_iff.1 hg).1).trans hg, r⟩

theorem RunsSoFar.store {N : Nat} {wr : World} {len : Nat} {L : Nat → Nat} {Z : Nat → List Int} {k : Nat} {xs : List Value} {A' : Nat → Option Addr} {C' B' : Nat → Nat} (h : RunsSoFar N wr len L Z k xs A' C' B') (hk : k < len) {a' : Option Addr} {c' b' : Nat}
    (hI : IntsAt wr a' (L k) b' 0 (Z k)) (hlo : 0 < L k → N < b') :
    RunsSoFar N (wr.setCell ⟨N, k, none⟩ (.slice a' (L k) c')) len L Z (k + 1) (xs.set k (.slice a' (L k) c')) (fun i => if i = k then a' else A' i) (fun i => if i = k then c' else C' i) (fun i => if i = k then b' else B' i) := by
  have hl : xs.length = len := by simpa using h.1.1
  refine ⟨(h.1.stored k _).1, fun i hi => ?_⟩
  rw [List.getElem?_set]
  by_cases hik : i = k
  · subst hik
    simp only [if_true]
    rw [if_pos (by omega)]
    exact ⟨rfl, hI.setCell _ (fun h0 => by have := hlo h0; show b' ≠ N; omega), hlo⟩
  · simp only [if_neg hik]
    rw [if_neg (by omega)]
    obtain ⟨r1, r2, r3⟩ := h.2 i (by omega)
    exact ⟨r1, r2.setCell _ (fun h0 => by have := r3 h0; show B' i ≠ N; omega), r3⟩

set_option maxHeartbeats 800000 in
theorem cloneRuns_any (a : Option Addr) (len c b off : Nat) (A : Nat → Option Addr) (L C B O : Nat → Nat) (Z : Nat → List Int) (w : World) (h : RowsAt w a len b off A L C B O Z) (hm : len ≤ 1048576) (hL : ∀ i, i < len → L i ≤ 1048576) :
    Calls Trym.prog 6 #[.slice a len c] w (ClonedRuns w len L Z) := by
  have hnil : ∀ w, (binOp .eql 22 (.slice a len c) (.slice none 0 0)).run Trym.prog w = .ok (.bool a.isNone) w := fun w => Lib.run_eql_slice_nil w 22 23 a len c 0 0 Trym.underlying22
  have H : Hid (RowsAt w a len b off A L C B O Z) := h
  have HL : Hid (∀ i, i < len → L i ≤ 1048576) := hL
  clear hL
  obtain ⟨i0, hi, hz0, hz1, hz2⟩ := info_parts info23
  cases hn : a.isNone
  case true =>
    have ha : a = none := by simpa using hn
    have hl0 : len = 0 := by
      by_cases h0 : 0 < len
      · have := h.addr h0; rw [ha] at this; cases this
      · omega
    subst hl0
    clear ha h
    go_enter Trym.func6, Trym.ntmps6
    go_wp2
    go_ret
    exact ⟨none, 0, 0, A, C, B, rfl, ⟨fun h => absurd h (by omega), fun h => absurd h (by omega), fun i hi => absurd hi (by omega), fun i hi => absurd hi (by omega)⟩, Below.refl _ _⟩
  case false =>
    have HA : Hid (0 < len → a = some ⟨b, off, none⟩) := h.addr
    clear h
    go_enter Trym.func6, Trym.ntmps6
    go_wp2_with (at_make; refine wpList_make_full _ rfl _ _ 22 rfl w.heap.size 23 i0 (.slice none 0 0) 1 Trym.underlying22 hi hz0 hz1 _ _ _ _ len rfl rfl rfl rfl (by rw [hz2]; omega) (by unfold maxLen; omega) (Nat.le_refl _) ?_; intro w1 hown hgrow)
    have hb1 : Below w.heap.size w w1 := (Below.refl _ _).grown hgrow (Nat.le_refl _) (fun k hk => by cases hk)
    have Hown : Hid (w1.ownsRow w.heap.size 23 1 (.slice (some ⟨w.heap.size, 0, none⟩) len len) len (madeCells (Value.slice none 0 0).cells (len * 1)).toList) := hown
    clear hown hgrow
    go_loopg [4] len (fun g i wr => ∃ k : Nat, k ≤ len ∧ i = .int .i64 k ∧ g = len - k ∧ Below w.heap.size w wr ∧ ∃ xs A' C' B', RunsSoFar w.heap.size wr len L Z k xs A' C' B')
    case atStart => exact ⟨0, Nat.zero_le _, rfl, rfl, hb1, _, A, C, B, Hown.out, fun i hi => absurd hi (by omega)⟩
    case round =>
      obtain ⟨k, hk, rfl, hg, hb, xs, A', C', B', hso⟩ := hrel
      by_cases hlt : k < len
      · have hx0 := fun w => run_at w (cap := c) Trym.underlying22 size23 HA.out hlt
        have hd0 : wr.cell? ⟨b, off + k, none⟩ = some (.slice (A k) (L k) (C k)) := (hb.cell (p := ⟨b, off + k, none⟩) (by have := H.out.lt (by omega); exact this)).trans (H.out.cell k hlt)
        have HI : Hid (IntsAt wr (A k) (L k) (B k) (O k) (Z k)) := (H.out.row k hlt).below hb (fun h0 => (H.out.row k hlt).lt h0)
        have hN := hso.lt
        have Hg : Hid (gk = len - k) := hg
        have Hx : Hid (RunsSoFar w.heap.size wr len L Z k xs A' C' B') := hso
        have HLk : Hid (L k ≤ 1048576) := HL.out k hlt
        clear hg hso
        go_wp2_with fail
        refine (clone_any (A k) (L k) (C k) (B k) (O k) (Z k) wr HI.out HLk.out (by by_cases h0 : 0 < L k; exact Or.inl (HI.out.lt h0); exact Or.inr (by omega))).mono ?_
        rintro e w1 ⟨a', c', b', rfl, hI, hlo, hb1⟩
        have Hx1 := Hx.out.below hb1
        have hcell : ∃ v, w1.cell? ⟨w.heap.size, k, none⟩ = some v := by
          rw [Hx1.1.cellAt k (by omega)]
          exact ⟨_, List.getElem?_eq_getElem (by rw [Hx1.1.1]; omega)⟩
        obtain ⟨v0, hv0⟩ := hcell
        have hfr := Hx1.1.frozenAt k
        have HI1 : Hid (IntsAt w1 a' (L k) b' 0 (Z k) ∧ (0 < L k → wr.heap.size ≤ b') ∧ RunsSoFar w.heap.size w1 len L Z k xs A' C' B' ∧ Below w.heap.size w w1) := ⟨hI, hlo, Hx1, hb.trans (hb1.mono (by omega))⟩
        clear hI hlo Hx1 hd0 hb hb1
        go_wp2
        go_roundg (len - (k + 1))
        case measure => rw [Hg.out]; omega
        case rel => exact ⟨k + 1, hlt, by go_num, rfl, HI1.out.2.2.2.setCell (Nat.le_refl _) _, _, _, _, _, HI1.out.2.2.1.store hlt HI1.out.1 (fun h0 => Nat.lt_of_lt_of_le hN (HI1.out.2.1 h0))⟩
      · go_wp2
        go_ret
        obtain rfl : k = len := by omega
        refine ⟨_, _, w.heap.size, A', C', B', rfl, ⟨fun _ => rfl, fun _ => hso.lt, fun i hi => ?_, fun i hi => (hso.2 i hi).2.1⟩, hb⟩
        rw [Nat.zero_add, hso.1.cellAt i (by omega)]
        exact (hso.2 i hi).1
end Go.Proofs.Qxb6003613aMods
