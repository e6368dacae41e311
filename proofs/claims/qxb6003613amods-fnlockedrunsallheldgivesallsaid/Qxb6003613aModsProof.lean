import Derived.Test.Qxb6003613aModsMain
import Derived.Deep.Matrix
import Derived.ChangeOld
namespace Go.Proofs.Qxb6003613aMods
open Go.ChangeShapes Go.WideShapes Go.ChangeAt Go.RowKit
namespace fnLockedRuns

theorem own : ownKnob Trym.prog.godebug = none := by kernel_rfl
theorem laidOut : laidOutB Trym.prog = true := by kernel_rfl

theorem addr_plain {w : World} {x : Addr} {v : Value} (h : w.cell? (x.add 0) = some v) : x = ⟨x.block, x.off, none⟩ := by
  obtain ⟨b, o, s⟩ := x
  have := World.cell?_spot h
  simp [Addr.add] at this
  rw [this]

/-- A slice of numbers that came in, as the walk is told of it. -/
theorem ints_of (w : World) (a : Option Addr) (len : Nat) (zs : List Int) (hl : len ≤ zs.length) (hnone : a = none → len = 0) (hcell : ∀ x, a = some x → ∀ i, i < len → w.cell? (x.add i) = some (.int .i64 (zs.getD i 0))) (hw : ∀ n ∈ zs, (Lit.int .i64 n).wf = true) :
    IntsAt w a len ((a.map Addr.block).getD 0) ((a.map Addr.off).getD 0) (zs.take len) := by
  cases a with
  | none =>
    have h0 := hnone rfl
    subst h0
    exact ⟨by simp, fun h => absurd h (by omega), fun h => absurd h (by omega), fun i hi => absurd hi (by omega), by simp⟩
  | some x =>
    refine ⟨by simp; omega, fun h0 => ?_, fun h0 => ?_, fun i hi => ?_, fun n hn => hw n (List.mem_of_mem_take hn)⟩
    · rw [addr_plain (hcell x rfl 0 h0)]
      rfl
    · exact World.block_lt_of_cell? w _ (hcell x rfl 0 h0)
    · have hc := hcell x rfl i hi
      have hx := addr_plain (hcell x rfl 0 (by omega))
      rw [hx, add_plain] at hc
      have e : (zs.take len).getD i 0 = zs.getD i 0 := by simp [List.getD, hi]
      rw [e]
      exact hc

set_option maxRecDepth 100000 in
theorem lifted (os : Os) (started : os.Started) (H : Type) (enc : TypeId × Value → H) :
    ReturnsInHanded {} Trym.checked os 3 .any (Rows.fnLockedRunsAllHeldGivesAllSpec.pre6 enc Trym.prog Trym.f3 Rows.fnLockedRunsAllHeldGivesAllRow.domain false) (Rows.fnLockedRunsAllHeldGivesAllSpec.post enc Trym.prog Trym.f3 false true false false) := by
  refine returnsInHanded_of_change (C := Trym.checked) own started (by kernel_rfl) Trym.func3
    (ChangeSpec.witness6 (enc := enc) (C := Trym.checked) false ⟨#[], #[.slice none 0 0, .slice none 0 0], []⟩ 8 (by kernel_rfl) (by kernel_rfl) (by kernel_rfl) (by kernel_rfl)) ?_
  intro W base args ds gs before hval0 hW hcnd _
  have hval : ∀ (j : Nat) t v, Trym.f3.params[j]? = some t → args[j]? = some v → Value.okWide Trym.prog W .any base t v := hval0
  have hW' := hW
  obtain ⟨p, q, hA0, hV, rfl, hfz, hnd⟩ := hW
  have hA : DataW.TrodAll enc Trym.prog W 0 (fun _ => true) true Trym.f3.params.toList args.toList ds p := hA0
  rw [Trym.params3] at hA hval
  obtain ⟨v0, vs0, d0, ds0, p0, q0, hargs, rfl, rfl, h0, r0⟩ := trodAll_cons hA
  obtain ⟨v1, vs1, d1, ds1, p1, q1, rfl, rfl, rfl, h1, r1⟩ := trodAll_cons r0
  obtain ⟨rfl, rfl, rfl⟩ := trodAll_nil r1
  obtain rfl : args = #[v0, v1] := by cases args; simp_all
  obtain ⟨rfl, rfl⟩ := trodVars_none hV
  obtain ⟨a0, len0, cap0, rfl⟩ := okWide_slice Trym.underlying22 (hval 0 22 v0 rfl rfl)
  have k0 := h0
  have lt0 : ∀ x ∈ p0, x.block < W.heap.size := by obtain ⟨m, hm⟩ := k0; exact DataW.trod_lt m _ _ _ hm
  obtain ⟨b, off, A, L, C, B, O, Z, hrows, hlen0, hL⟩ : ∃ b off, ∃ (A : Nat → Option Addr) (L C B O : Nat → Nat) (Z : Nat → List Int), RowsAt W a0 len0 b off A L C B O Z ∧ len0 ≤ maxLen ∧ ∀ i, i < len0 → L i ≤ maxLen := by
    obtain ⟨fuel, hf⟩ := h0
    rcases Go.Deep.open_int_rows Trym.underlying22 Trym.underlying23 Trym.underlying2 (by kernel_rfl) (by kernel_rfl) hf with ⟨hcs, _⟩ | ⟨x, l, c, A, L, C, Z, hcs, _, hl, hm, _, hr⟩
    · simp [Value.cells] at hcs
      obtain ⟨rfl, rfl, rfl⟩ := hcs
      exact ⟨0, 0, fun _ => none, fun _ => 0, fun _ => 0, fun _ => 0, fun _ => 0, fun _ => [], ⟨fun h => absurd h (by omega), fun h => absurd h (by omega), fun i hi => absurd hi (by omega), fun i hi => absurd hi (by omega)⟩, Nat.zero_le _, fun i hi => absurd hi (by omega)⟩
    · simp [Value.cells] at hcs
      obtain ⟨rfl, rfl, rfl⟩ := hcs
      refine ⟨x.block, x.off, A, L, C, fun r => ((A r).map Addr.block).getD 0, fun r => ((A r).map Addr.off).getD 0, fun r => (Z r).take (L r), ⟨fun h => ?_, fun h => ?_, fun i hi => ?_, fun i hi => ?_⟩, by omega, fun i hi => ?_⟩
      · rw [← addr_plain (hr 0 (by omega)).1]
      · exact World.block_lt_of_cell? W _ (hr 0 (by omega)).1
      · have hc := (hr i (by omega)).1
        rw [addr_plain (hr 0 (by omega)).1, add_plain] at hc
        exact hc
      · obtain ⟨_, e1, e2, e3, e4, e5, e6⟩ := hr i (by omega)
        exact ints_of W (A i) (L i) (Z i) (by omega) (fun hn => by have := e5 hn; omega) (fun y hy j hj => (e6 y hy).2 j (by omega)) e4
      · obtain ⟨_, e1, e2, _⟩ := hr i (by omega)
        omega
  obtain ⟨a1, len1, cap1, rfl⟩ := okWide_slice Trym.underlying23 (hval 1 23 v1 rfl rfl)
  have k1 := h1
  have lt1 : ∀ x ∈ p1, x.block < W.heap.size := by obtain ⟨m, hm⟩ := k1; exact DataW.trod_lt m _ _ _ hm
  obtain ⟨b1, o1, z1, hints, hlen1⟩ : ∃ b1 o1 zs, IntsAt W a1 len1 b1 o1 zs ∧ len1 ≤ maxLen := by
    obtain ⟨fuel, hf⟩ := h1
    rcases open_ints Trym.underlying23 Trym.underlying2 (by kernel_rfl) hf with ⟨hcs, _⟩ | ⟨x, l, c, zs, hcs, _, hl, hm, hz, _, hcell, hwz⟩
    · simp [Value.cells] at hcs
      obtain ⟨rfl, rfl, rfl⟩ := hcs
      exact ⟨_, _, _, ints_of W none 0 [] (by omega) (fun _ => rfl) (fun x hx => by cases hx) (by simp), Nat.zero_le _⟩
    · simp [Value.cells] at hcs
      obtain ⟨rfl, rfl, rfl⟩ := hcs
      have hz' : zs.length = cap1 := by simpa using hz
      exact ⟨_, _, _, ints_of W (some x) len1 zs (by omega) (fun h => by cases h) (fun y hy i hi => by cases hy; exact hcell i (by omega)) hwz, by omega⟩
  clear hA0 hval0
  simp only [List.append_nil] at hW'
  refine (law_any a0 len0 cap0 b off A L C B O Z a1 len1 cap1 b1 o1 z1 W hrows hints hlen0 hL hlen1).mono fun e W' ⟨he, bel⟩ => ?_
  subst he
  exact ⟨_, rfl, _, _, _, [], _, [], hW', trodAll_mk1 (shut_bool Trym.underlying4 _), (trodAll_mk2 (Below.trod laidOut (by kernel_rfl) (of_decide_eq_true (by kernel_rfl)) k0 bel lt0) (Below.trod laidOut (by kernel_rfl) (of_decide_eq_true (by kernel_rfl)) k1 bel lt1)), rfl, bel.frame _, fun h => by cases h⟩

theorem over : Rows.fnLockedRunsAllHeldGivesAllRow.holds Trym.pinned (OpenSpec.ofChange Rows.fnLockedRunsAllHeldGivesAllSpec) :=
  OpenClaim.holds_of_wide 3 Trym.f3 rfl rfl rfl rfl rfl rfl rfl ⟨rfl, rfl, rfl, rfl, rfl⟩ rfl rfl rfl rfl rfl (by kernel_rfl) Trym.func3 (by kernel_rfl)
    (of_decide_eq_true (by kernel_rfl)) (by unfold Func.isWrapper; first | (rw [if_pos (by decide +kernel)]; kernel_rfl) | (rw [if_neg (by decide +kernel)]; exact ⟨rfl, rfl⟩))
    (fun os started H enc _ => lifted os started H enc)

end fnLockedRuns

/-- The statement. -/
theorem lockedRunsProved : Rows.FnLockedRunsAllHeldGivesAllSaid := fnLockedRuns.over
end Go.Proofs.Qxb6003613aMods
