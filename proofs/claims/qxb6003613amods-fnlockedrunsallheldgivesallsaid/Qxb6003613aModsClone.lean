import Derived.Test.Qxb6003613aModsBase
namespace Go.Proofs.Qxb6003613aMods
open Go.RowKit Go.Maps
theorem info2 : (Trym.prog.info? 2).map (fun i => (i.zero, i.size, i.bytes)) = some (some (.int .i64 0), 1, 8) := by kernel_rfl
theorem info23 : (Trym.prog.info? 23).map (fun i => (i.zero, i.size, i.bytes)) = some (some (.slice none 0 0), 1, 24) := by kernel_rfl

/-- A row that the call owns, whose cells are the numbers: as a slice handed on. -/
theorem intsAt_of_owns {w : World} {base g l cap : Nat} {xs : List Value} {z : List Int} (h : w.ownsRow base 2 1 (.slice (some ⟨g, 0, none⟩) l cap) l xs) (hz : z.length = l) (hx : ∀ i, i < l → xs[i]? = some (.int .i64 (z.getD i 0))) (hw : ∀ n ∈ z, (Lit.int .i64 n).wf = true) :
    IntsAt w (some ⟨g, 0, none⟩) l g 0 z := by
  refine ⟨hz, fun _ => rfl, fun _ => ?_, fun i hi => ?_, hw⟩
  · rcases h.2 with ⟨h', _⟩ | ⟨g', cap', cur, h', _, hg, _⟩
    · simp at h'
    · simp only [Value.slice.injEq, Option.some.injEq, Addr.mk.injEq, and_true, true_and] at h'
      obtain ⟨rfl, rfl⟩ := h'
      exact (Array.getElem?_eq_some_iff.1 hg).1
  · rw [Nat.zero_add, h.cellAt i (by omega)]
    exact hx i hi

/-- What a call that hands back a fresh slice of the same numbers leaves. -/
def Cloned (w : World) (l : Nat) (z : List Int) (e : Ending) (w' : World) : Prop :=
  ∃ a' c' b', e = .returned (.slice a' l c') ∧ IntsAt w' a' l b' 0 z ∧ (0 < l → w.heap.size ≤ b') ∧ Below w.heap.size w w'

set_option maxHeartbeats 400000 in
theorem clone_any (a : Option Addr) (l c b o : Nat) (z : List Int) (w : World) (h : IntsAt w a l b o z) (hm : l ≤ 1048576) (hbl : b < w.heap.size ∨ l = 0) :
    Calls Trym.prog 7 #[.slice a l c] w (Cloned w l z) := by
  have hnil : ∀ w, (binOp .eql 23 (.slice a l c) (.slice none 0 0)).run Trym.prog w = .ok (.bool a.isNone) w := fun w => Lib.run_eql_slice_nil w 23 2 a l c 0 0 Trym.underlying23
  have H : Hid (IntsAt w a l b o z) := h
  obtain ⟨i0, hi, hz0, hz1, hz2⟩ := info_parts info2
  cases hn : a.isNone
  case true =>
    have ha : a = none := by simpa using hn
    have hl0 : l = 0 := by
      by_cases h0 : 0 < l
      · have := h.addr h0; rw [ha] at this; cases this
      · omega
    subst hl0
    clear ha h
    go_enter Trym.func7, Trym.ntmps7
    go_wp2
    go_ret
    exact ⟨none, 0, 0, rfl, ⟨H.out.len_eq, fun h => absurd h (by omega), fun h => absurd h (by omega), fun i hi => absurd hi (by omega), H.out.wf⟩, fun h => absurd h (by omega), Below.refl _ _⟩
  case false =>
    have HA : Hid (0 < l → a = some ⟨b, o, none⟩) := h.addr
    clear h
    go_enter Trym.func7, Trym.ntmps7
    go_wp2_with (at_make; refine wpList_make_full _ rfl _ _ 23 rfl w.heap.size 2 i0 (.int .i64 0) 1 Trym.underlying23 hi hz0 hz1 _ _ _ _ l rfl rfl rfl rfl (by rw [hz2]; omega) (by unfold maxLen; omega) (Nat.le_refl _) ?_; intro w1 hown hgrow)
    have hb1 : Below w.heap.size w w1 := (Below.refl _ _).grown hgrow (Nat.le_refl _) (fun k hk => by cases hk)
    have Hown : Hid (w1.ownsRow w.heap.size 2 1 (.slice (some ⟨w.heap.size, 0, none⟩) l l) l (madeCells (Value.int .i64 0).cells (l * 1)).toList) := hown
    clear hown hgrow
    go_loopg [4] l (fun g i wr => ∃ k : Nat, k ≤ l ∧ i = .int .i64 k ∧ g = l - k ∧ Below w.heap.size w wr ∧ ∃ xs, wr.ownsRow w.heap.size 2 1 (.slice (some ⟨w.heap.size, 0, none⟩) l l) l xs ∧ ∀ i, i < k → xs[i]? = some (.int .i64 (z.getD i 0)))
    case atStart => exact ⟨0, Nat.zero_le _, rfl, rfl, hb1, _, Hown.out, fun i hi => absurd hi (by omega)⟩
    case round =>
      obtain ⟨k, hk, rfl, hg, hb, xs, hown, hxs⟩ := hrel
      by_cases hlt : k < l
      · have hx0 := fun w => run_at w (cap := c) Trym.underlying23 size2 HA.out hlt
        have hd0 : wr.cell? ⟨b, o + k, none⟩ = some (.int .i64 (z.getD k 0)) := (hb.cell (p := ⟨b, o + k, none⟩) (by show b < _; omega)).trans (H.out.cell k hlt)
        have hcell : ∃ v, wr.cell? ⟨w.heap.size, k, none⟩ = some v := by
          rw [hown.cellAt k (by omega)]
          exact ⟨_, List.getElem?_eq_getElem (by rw [hown.1]; omega)⟩
        obtain ⟨v0, hv0⟩ := hcell
        have hfr := hown.frozenAt k
        have Hg : Hid (gk = l - k) := hg
        have Hst := hown.stored k (.int .i64 (z.getD k 0))
        have Ha : Hid ((wr.setCell ⟨w.heap.size, k, none⟩ (.int .i64 (z.getD k 0))).ownsRow w.heap.size 2 1 (.slice (some ⟨w.heap.size, 0, none⟩) l l) l (xs.set k (.int .i64 (z.getD k 0)))) := Hst.1
        have Hx : Hid (xs.length = l ∧ ∀ i, i < k → xs[i]? = some (.int .i64 (z.getD i 0))) := ⟨by simpa using hown.1, hxs⟩
        clear hg hown Hst hxs
        go_wp2
        go_roundg (l - (k + 1))
        case measure => rw [Hg.out]; omega
        case rel =>
          refine ⟨k + 1, hlt, by go_num, rfl, hb.setCell (Nat.le_refl _) _, _, Ha.out, fun i hi => ?_⟩
          rw [List.getElem?_set]
          by_cases hik : k = i
          · subst hik
            rw [if_pos rfl, if_pos (by rw [Hx.out.1]; exact hlt)]
          · rw [if_neg hik]
            exact Hx.out.2 i (by omega)
      · go_wp2
        go_ret
        obtain rfl : k = l := by omega
        exact ⟨_, _, _, rfl, intsAt_of_owns hown H.out.len_eq hxs H.out.wf, fun _ => Nat.le_refl _, hb⟩
end Go.Proofs.Qxb6003613aMods
