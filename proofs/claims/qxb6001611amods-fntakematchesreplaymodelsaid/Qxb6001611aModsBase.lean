import Derived.Test.Qxb6001611aModsRows
import Derived.Test.Qxb6001611aModsPlain
import Derived.WalkKit
import Derived.ProofKit
import Derived.Below
import Derived.Deep.LoopGhost
import Derived.Deep.QuietTactic
import Derived.BigQuiet
import Derived.WalkSpells
import Derived.WalkLawsBesides
import Derived.Laws.Rows
import Derived.Laws.BitsAllLaws
import Derived.Lib.SliceRun
namespace Go.Proofs.Qxb6001611aMods
open Go.RowKit

/-- A slice of uint64 as a function is handed it. -/
structure UintsAt (w : World) (ao : Option Addr) (len b off : Nat) (zs : List Nat) : Prop where
  len_eq : zs.length = len
  addr : 0 < len → ao = some ⟨b, off, none⟩
  lt : 0 < len → b < w.heap.size
  cell : ∀ i, i < len → w.cell? ⟨b, off + i, none⟩ = some (.int .u64 (zs.getD i 0 : Int))
  wf : ∀ z ∈ zs, z < 18446744073709551616

theorem UintsAt.below {w w' : World} {ao : Option Addr} {len b off : Nat} {zs : List Nat} (h : UintsAt w ao len b off zs) {B : Nat} (hb : Below B w w') (hB : 0 < len → b < B) : UintsAt w' ao len b off zs :=
  ⟨h.len_eq, h.addr, fun h0 => Nat.lt_of_lt_of_le (h.lt h0) hb.size, fun i hi => (hb.cell (p := ⟨b, off + i, none⟩) (hB (by omega))).trans (h.cell i hi), h.wf⟩

/-- 'a[i]' at an index within the length: the address, whatever is known of an empty slice's. -/
theorem run_at (w : World) {t : TypeId} {e : TypeId} (ht : Trym.prog.underlying t = some (.slice e)) (he : ∀ w, (Go.sizeOf e).run Trym.prog w = .ok 1 w) {ao : Option Addr} {len cap b off i : Nat} (ha : 0 < len → ao = some ⟨b, off, none⟩) (hi : i < len) :
    (Instr.indexAt t (.slice ao len cap) (.int .i64 (i : Int))).run Trym.prog w = .ok (.pointer (some ⟨b, off + i, none⟩)) w := by
  have hao := ha (by omega)
  subst hao
  simp [Instr.indexAt, run_underlying ht, he, Result.andThen, asIntOf, Addr.add, hi]

theorem size24 (w : World) : (Go.sizeOf 24).run Trym.prog w = .ok 1 w := by kernel_rfl
theorem info24 : (Trym.prog.info? 24).map (fun i => (i.zero, i.size, i.bytes)) = some (some (.int .u64 0), 1, 8) := by kernel_rfl
theorem cells33 : (Trym.prog.info? 33).map (·.size) = some 3 := by kernel_rfl

/-- A row that the call owns, whose cells are the numbers: as a slice handed on. -/
theorem uintsAt_of_owns {w : World} {base g l cap : Nat} {xs : List Value} {z : List Nat} (h : w.ownsRow base 24 1 (.slice (some ⟨g, 0, none⟩) l cap) l xs) (hz : z.length = l) (hx : ∀ i, i < l → xs[i]? = some (.int .u64 (z.getD i 0 : Int))) (hw : ∀ n ∈ z, n < 18446744073709551616) :
    UintsAt w (some ⟨g, 0, none⟩) l g 0 z := by
  refine ⟨hz, fun _ => rfl, fun _ => ?_, fun i hi => ?_, hw⟩
  · rcases h.2 with ⟨h', _⟩ | ⟨g', cap', cur, h', _, hg, _⟩
    · simp at h'
    · simp only [Value.slice.injEq, Option.some.injEq, Addr.mk.injEq, and_true, true_and] at h'
      obtain ⟨rfl, rfl⟩ := h'
      exact (Array.getElem?_eq_some_iff.1 hg).1
  · rw [Nat.zero_add, h.cellAt i (by omega)]
    exact hx i hi

/-- What a call that hands back a fresh slice of the same numbers leaves. -/
def Cloned (w : World) (l : Nat) (z : List Nat) (e : Ending) (w' : World) : Prop :=
  ∃ a' c' b', e = .returned (.slice a' l c') ∧ UintsAt w' a' l b' 0 z ∧ Below w.heap.size w w'

set_option maxHeartbeats 400000 in
theorem clone_any (a : Option Addr) (l c b o : Nat) (z : List Nat) (w : World) (h : UintsAt w a l b o z) (hm : l ≤ 1048576) :
    Calls Trym.prog 7 #[.slice a l c] w (Cloned w l z) := by
  have hnil : ∀ w, (binOp .eql 22 (.slice a l c) (.slice none 0 0)).run Trym.prog w = .ok (.bool a.isNone) w := fun w => Lib.run_eql_slice_nil w 22 24 a l c 0 0 Trym.underlying22
  have H : Hid (UintsAt w a l b o z) := h
  obtain ⟨i0, hi, hz0, hz1, hz2⟩ := info_parts info24
  cases hn : a.isNone
  case true =>
    have ha : a = none := by simpa using hn
    have hl0 : l = 0 := by
      by_cases h0 : 0 < l
      · have := h.addr h0; rw [ha] at this; cases this
      · omega
    subst hl0
    clear ha h
    go_enter Trym.func7, Trym.ntmps7
    go_wp2
    go_ret
    exact ⟨none, 0, 0, rfl, ⟨H.out.len_eq, fun h => absurd h (by omega), fun h => absurd h (by omega), fun i hi => absurd hi (by omega), H.out.wf⟩, Below.refl _ _⟩
  case false =>
    have HA : Hid (0 < l → a = some ⟨b, o, none⟩) := h.addr
    clear h
    go_enter Trym.func7, Trym.ntmps7
    go_wp2_with (at_make; refine wpList_make_full _ rfl _ _ 22 rfl w.heap.size 24 i0 (.int .u64 0) 1 Trym.underlying22 hi hz0 hz1 _ _ _ _ l rfl rfl rfl rfl (by rw [hz2]; omega) (by unfold maxLen; omega) (Nat.le_refl _) ?_; intro w1 hown hgrow)
    have hb1 : Below w.heap.size w w1 := (Below.refl _ _).grown hgrow (Nat.le_refl _) (fun k hk => by cases hk)
    have Hown : Hid (w1.ownsRow w.heap.size 24 1 (.slice (some ⟨w.heap.size, 0, none⟩) l l) l (madeCells (Value.int .u64 0).cells (l * 1)).toList) := hown
    clear hown hgrow
    go_loopg [4] l (fun g i wr => ∃ k : Nat, k ≤ l ∧ i = .int .i64 k ∧ g = l - k ∧ Below w.heap.size w wr ∧ ∃ xs, wr.ownsRow w.heap.size 24 1 (.slice (some ⟨w.heap.size, 0, none⟩) l l) l xs ∧ ∀ i, i < k → xs[i]? = some (.int .u64 (z.getD i 0 : Int)))
    case atStart => exact ⟨0, Nat.zero_le _, rfl, rfl, hb1, _, Hown.out, fun i hi => absurd hi (by omega)⟩
    case round =>
      obtain ⟨k, hk, rfl, hg, hb, xs, hown, hxs⟩ := hrel
      by_cases hlt : k < l
      · have hx0 := fun w => run_at w (cap := c) Trym.underlying22 size24 HA.out hlt
        obtain ⟨x, hx⟩ : ∃ x, z.getD k 0 = x := ⟨_, rfl⟩
        have hd0 : wr.cell? ⟨b, o + k, none⟩ = some (.int .u64 (x : Int)) := by rw [← hx]; exact (hb.cell (p := ⟨b, o + k, none⟩) (H.out.lt (by omega))).trans (H.out.cell k hlt)
        have hcell : ∃ v, wr.cell? ⟨w.heap.size, k, none⟩ = some v := by
          rw [hown.cellAt k (by omega)]
          exact ⟨_, List.getElem?_eq_getElem (by rw [hown.1]; omega)⟩
        obtain ⟨v0, hv0⟩ := hcell
        have hfr := hown.frozenAt k
        have Hg : Hid (gk = l - k) := hg
        have Ha : Hid ((wr.setCell ⟨w.heap.size, k, none⟩ (.int .u64 (x : Int))).ownsRow w.heap.size 24 1 (.slice (some ⟨w.heap.size, 0, none⟩) l l) l (xs.set k (.int .u64 (x : Int)))) := (hown.stored k _).1
        have Hx : Hid (xs.length = l ∧ z.getD k 0 = x ∧ ∀ i, i < k → xs[i]? = some (.int .u64 (z.getD i 0 : Int))) := ⟨by simpa using hown.1, hx, hxs⟩
        clear hg hown hxs hx
        go_wp2
        go_roundg (l - (k + 1))
        case measure => rw [Hg.out]; omega
        case rel =>
          refine ⟨k + 1, hlt, by go_num, rfl, hb.setCell (Nat.le_refl _) _, _, Ha.out, fun i hi => ?_⟩
          rw [List.getElem?_set]
          by_cases hik : k = i
          · subst hik
            rw [if_pos rfl, if_pos (by rw [Hx.out.1]; exact hlt), Hx.out.2.1]
          · rw [if_neg hik]
            exact Hx.out.2.2 i (by omega)
      · go_wp2
        go_ret
        obtain rfl : k = l := by omega
        exact ⟨_, _, _, rfl, uintsAt_of_owns hown H.out.len_eq hxs H.out.wf, hb⟩

def SomeBool (w : World) (e : Ending) (w' : World) : Prop := ∃ x, e = .returned (.bool x) ∧ w = w'
theorem bytes_any (a : Option Addr) (l c : Nat) (a1 : Option Addr) (l1 c1 : Nat) (w : World) (hm : l ≤ maxLen) (hm1 : l1 ≤ maxLen) : Calls Trym.prog 6 #[.slice a l c, .slice a1 l1 c1] w (SomeBool w) := by
  unfold maxLen at hm hm1
  by_cases h1 : 1048576 < l
  · go_enter Trym.func6, Trym.ntmps6
    go_wp2
    go_ret
    exact ⟨_, rfl, rfl⟩
  by_cases h2 : 1048576 < l1
  · go_enter Trym.func6, Trym.ntmps6
    go_wp2
    go_ret
    exact ⟨_, rfl, rfl⟩
  by_cases h3 : 1048576 < l + l1
  · go_enter Trym.func6, Trym.ntmps6
    go_wp2
    go_ret
    exact ⟨_, rfl, rfl⟩
  go_enter Trym.func6, Trym.ntmps6
  go_wp2
  go_ret
  exact ⟨_, rfl, rfl⟩

set_option maxHeartbeats 400000 in
/-- zzContainsB1. -/
theorem contains_any (a : Option Addr) (l c b o : Nat) (z : List Nat) (v : Nat) (w : World) (h : UintsAt w a l b o z) (hm : l ≤ 1048576) :
    Calls Trym.prog 8 #[.slice a l c, .int .u64 (v : Int)] w fun e w' => e = .returned (.bool (decide (v ∈ z))) ∧ w = w' := by
  have H : Hid (UintsAt w a l b o z) := h
  have HA : Hid (0 < l → a = some ⟨b, o, none⟩) := h.addr
  have HZ : Hid (z.length = l) := h.len_eq
  clear h
  go_enter Trym.func8, Trym.ntmps8
  go_wp2
  go_loopg [5] l (fun g i wr => ∃ k : Nat, k ≤ l ∧ i = .int .i64 k ∧ g = l - k ∧ wr = w ∧ ∀ j, j < k → z.getD j 0 ≠ v)
  case atStart => exact ⟨0, Nat.zero_le _, rfl, rfl, rfl, fun j hj => absurd hj (by omega)⟩
  case round =>
    obtain ⟨k, hk, rfl, hg, rfl, hno⟩ := hrel
    have Hno : Hid (∀ j, j < k → z.getD j 0 ≠ v) := hno
    have Hg : Hid (gk = l - k) := hg
    clear hno hg
    by_cases hlt : k < l
    · have hx0 := fun w => run_at w (cap := c) Trym.underlying22 size24 HA.out hlt
      obtain ⟨x, hx⟩ : ∃ x, z.getD k 0 = x := ⟨_, rfl⟩
      have hd0 := H.out.cell k hlt
      rw [hx] at hd0
      have HX : Hid (z.getD k 0 = x) := hx
      clear hx
      by_cases hv : x = v
      · have hd : ((x : Int) == (v : Int)) = true := by simp [hv]
        have Hv : Hid (x = v) := hv
        clear hv
        go_wp2
        go_ret
        refine ⟨?_, rfl⟩
        have : v ∈ z := by
          have hkl : k < z.length := by rw [HZ.out]; exact hlt
          rw [← Hv.out, ← HX.out, List.getD, List.getElem?_eq_getElem hkl]
          exact List.getElem_mem hkl
        rw [decide_eq_true this]
        rfl
      · have hd : ((x : Int) == (v : Int)) = false := beq_eq_false_iff_ne.2 (by omega)
        have Hv : Hid (¬ x = v) := hv
        clear hv
        go_wp2
        go_roundg (l - (k + 1))
        case measure => rw [Hg.out]; omega
        case rel =>
          refine ⟨k + 1, hlt, by go_num, rfl, rfl, fun j hj => ?_⟩
          by_cases hjk : j = k
          · subst hjk; rw [HX.out]; exact Hv.out
          · exact Hno.out j (by omega)
    · go_wp2
      go_ret
      refine ⟨?_, rfl⟩
      have : ¬ v ∈ z := by
        intro hv
        obtain ⟨j, hj, e⟩ := List.getElem_of_mem hv
        have := Hno.out j (by have := HZ.out; omega)
        rw [List.getD, List.getElem?_eq_getElem hj] at this
        exact this e
      rw [decide_eq_false this]
      rfl
end Go.Proofs.Qxb6001611aMods
