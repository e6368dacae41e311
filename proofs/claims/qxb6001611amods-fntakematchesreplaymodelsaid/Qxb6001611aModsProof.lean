import Derived.Test.Qxb6001611aModsMain
import Derived.ChangeOld
namespace Go.Proofs.Qxb6001611aMods
open Go.ChangeShapes Go.WideShapes Go.ChangeAt Go.RowKit
namespace fnTake

theorem own : ownKnob Trym.prog.godebug = none := by kernel_rfl
theorem laidOut : laidOutB Trym.prog = true := by kernel_rfl

theorem addr_plain {w : World} {x : Addr} {v : Value} (h : w.cell? (x.add 0) = some v) : x = ⟨x.block, x.off, none⟩ := by
  obtain ⟨b, o, s⟩ := x
  have := World.cell?_spot h
  simp [Addr.add] at this
  rw [this]
theorem bounds_u64 {n : Int} (h : (Lit.int .u64 n).wf = true) : 0 ≤ n ∧ n < 18446744073709551616 := by
  simp [Lit.wf, IntKind.min, IntKind.max, IntKind.signed, IntKind.bits] at h
  omega

/-- A slice of numbers that came in, as the walk is told of it. -/
theorem uints_of (w : World) (a : Option Addr) (len : Nat) (zs : List Int) (hl : len ≤ zs.length) (hnone : a = none → len = 0) (hcell : ∀ x, a = some x → ∀ i, i < len → w.cell? (x.add i) = some (.int .u64 (zs.getD i 0))) (hw : ∀ n ∈ zs, (Lit.int .u64 n).wf = true) :
    UintsAt w a len ((a.map Addr.block).getD 0) ((a.map Addr.off).getD 0) ((zs.take len).map Int.toNat) := by
  have hwf : ∀ n ∈ (zs.take len).map Int.toNat, n < 18446744073709551616 := by
    intro n hn
    obtain ⟨m, hm, rfl⟩ := List.mem_map.1 hn
    have := bounds_u64 (hw m (List.mem_of_mem_take hm))
    omega
  cases a with
  | none =>
    have h0 := hnone rfl
    subst h0
    exact ⟨by simp, fun h => absurd h (by omega), fun h => absurd h (by omega), fun i hi => absurd hi (by omega), hwf⟩
  | some x =>
    refine ⟨by simp; omega, fun h0 => ?_, fun h0 => ?_, fun i hi => ?_, hwf⟩
    · rw [addr_plain (hcell x rfl 0 h0)]
      rfl
    · exact World.block_lt_of_cell? w _ (hcell x rfl 0 h0)
    · have hc := hcell x rfl i hi
      have hx := addr_plain (hcell x rfl 0 (by omega))
      rw [hx, add_plain] at hc
      have hil : i < zs.length := by omega
      have hb := bounds_u64 (hw zs[i] (List.getElem_mem hil))
      have e : ((((zs.take len).map Int.toNat).getD i 0 : Nat) : Int) = zs.getD i 0 := by
        simp [List.getD, hi, List.getElem?_eq_getElem hil]
        omega
      rw [e]
      exact hc

set_option maxRecDepth 100000 in
theorem lifted (os : Os) (started : os.Started) (H : Type) (enc : TypeId × Value → H) :
    ReturnsInHanded {} Trym.checked os 3 .any (Rows.fnTakeMatchesReplayModelSpec.pre6 enc Trym.prog Trym.f3 Rows.fnTakeMatchesReplayModelRow.domain false) (Rows.fnTakeMatchesReplayModelSpec.post enc Trym.prog Trym.f3 false true false false) := by
  refine returnsInHanded_of_change (C := Trym.checked) own started (by kernel_rfl) Trym.func3
    (ChangeSpec.witness6 (enc := enc) (C := Trym.checked) false ⟨#[], #[.slice none 0 0, .slice none 0 0], []⟩ 8 (by kernel_rfl) (by kernel_rfl) (by kernel_rfl) (by kernel_rfl)) ?_
  intro W base args ds gs before hval0 hW hcnd _
  have hval : ∀ (j : Nat) t v, Trym.f3.params[j]? = some t → args[j]? = some v → Value.okWide Trym.prog W .any base t v := hval0
  have hW' := hW
  obtain ⟨p, q, hA0, hV, rfl, hfz, hnd⟩ := hW
  have hA : DataW.TrodAll enc Trym.prog W 0 (fun _ => true) true Trym.f3.params.toList args.toList ds p := hA0
  rw [Trym.params3] at hA hval
  obtain ⟨v0, v1, d0, d1, p0, p1, rfl, rfl, rfl, h0, h1⟩ := trodAll_two hA
  obtain ⟨rfl, rfl⟩ := trodVars_none hV
  obtain ⟨a0, len0, cap0, rfl⟩ := okWide_slice Trym.underlying22 (hval 0 22 v0 rfl rfl)
  have k0 := h0
  have lt0 : ∀ x ∈ p0, x.block < W.heap.size := by obtain ⟨m, hm⟩ := k0; exact DataW.trod_lt m _ _ _ hm
  obtain ⟨b0, o0, z0, hu0, hlen0⟩ : ∃ b o zs, UintsAt W a0 len0 b o zs ∧ len0 ≤ maxLen := by
    obtain ⟨fuel, hf⟩ := h0
    rcases open_ints Trym.underlying22 Trym.underlying24 (by kernel_rfl) hf with ⟨hcs, _⟩ | ⟨x, l, c, zs, hcs, _, hl, hm, hz, _, hcell, hwz⟩
    · simp [Value.cells] at hcs
      obtain ⟨rfl, rfl, rfl⟩ := hcs
      exact ⟨_, _, _, uints_of W none 0 [] (by omega) (fun _ => rfl) (fun x hx => by cases hx) (by simp), Nat.zero_le _⟩
    · simp [Value.cells] at hcs
      obtain ⟨rfl, rfl, rfl⟩ := hcs
      have hz' : zs.length = cap0 := by simpa using hz
      exact ⟨_, _, _, uints_of W (some x) len0 zs (by omega) (fun h => by cases h) (fun y hy i hi => by cases hy; exact hcell i (by omega)) hwz, by omega⟩
  obtain ⟨a1, len1, cap1, rfl⟩ := okWide_slice Trym.underlying22 (hval 1 22 v1 rfl rfl)
  have k1 := h1
  have lt1 : ∀ x ∈ p1, x.block < W.heap.size := by obtain ⟨m, hm⟩ := k1; exact DataW.trod_lt m _ _ _ hm
  obtain ⟨b1, o1, z1, hu1, hlen1⟩ : ∃ b o zs, UintsAt W a1 len1 b o zs ∧ len1 ≤ maxLen := by
    obtain ⟨fuel, hf⟩ := h1
    rcases open_ints Trym.underlying22 Trym.underlying24 (by kernel_rfl) hf with ⟨hcs, _⟩ | ⟨x, l, c, zs, hcs, _, hl, hm, hz, _, hcell, hwz⟩
    · simp [Value.cells] at hcs
      obtain ⟨rfl, rfl, rfl⟩ := hcs
      exact ⟨_, _, _, uints_of W none 0 [] (by omega) (fun _ => rfl) (fun x hx => by cases hx) (by simp), Nat.zero_le _⟩
    · simp [Value.cells] at hcs
      obtain ⟨rfl, rfl, rfl⟩ := hcs
      have hz' : zs.length = cap1 := by simpa using hz
      exact ⟨_, _, _, uints_of W (some x) len1 zs (by omega) (fun h => by cases h) (fun y hy i hi => by cases hy; exact hcell i (by omega)) hwz, by omega⟩
  clear hA0 hval0
  simp only [List.append_nil] at hW'
  refine (law_any a0 len0 cap0 b0 o0 z0 a1 len1 cap1 b1 o1 z1 W hu0 hu1 hlen0 hlen1).mono fun e W' ⟨he, bel⟩ => ?_
  subst he
  exact ⟨_, rfl, _, _, _, [], _, [], hW', trodAll_mk1 (shut_bool Trym.underlying4 _), trodAll_mk2 (Below.trod laidOut (by kernel_rfl) (of_decide_eq_true (by kernel_rfl)) k0 bel lt0) (Below.trod laidOut (by kernel_rfl) (of_decide_eq_true (by kernel_rfl)) k1 bel lt1), rfl, bel.frame _, fun h => by cases h⟩

theorem over : Rows.fnTakeMatchesReplayModelRow.holds Trym.pinned (OpenSpec.ofChange Rows.fnTakeMatchesReplayModelSpec) :=
  OpenClaim.holds_of_wide 3 Trym.f3 rfl rfl rfl rfl rfl rfl rfl ⟨rfl, rfl, rfl, rfl, rfl⟩ rfl rfl rfl rfl rfl (by kernel_rfl) Trym.func3 (by kernel_rfl)
    (of_decide_eq_true (by kernel_rfl)) (by unfold Func.isWrapper; first | (rw [if_pos (by decide +kernel)]; kernel_rfl) | (rw [if_neg (by decide +kernel)]; exact ⟨rfl, rfl⟩))
    (fun os started H enc _ => lifted os started H enc)
end fnTake

/-- The statement. -/
theorem takeProved : Rows.FnTakeMatchesReplayModelSaid := fnTake.over
end Go.Proofs.Qxb6001611aMods
