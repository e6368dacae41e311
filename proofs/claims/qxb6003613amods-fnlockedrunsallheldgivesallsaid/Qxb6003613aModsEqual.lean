import Derived.Test.Qxb6003613aModsBase
import Derived.Deep.QuietTactic
import Derived.BigQuiet
namespace Go.Proofs.Qxb6003613aMods
open Go.RowKit Go.Maps
set_option maxHeartbeats 400000 in
theorem equal_same (a0 a1 : Option Addr) (l c0 c1 b0 b1 o0 o1 : Nat) (z : List Int) (w : World) (h0 : IntsAt w a0 l b0 o0 z) (h1 : IntsAt w a1 l b1 o1 z) (hm : l ≤ 1048576) :
    Calls Trym.prog 9 #[.slice a0 l c0, .slice a1 l c1] w fun e w' => e = .returned (.bool true) ∧ Below w.heap.size w w' := by
  have hA0 := h0.addr
  have hA1 := h1.addr
  have hC0 := h0.cell
  have hC1 := h1.cell
  have H : Hid (∀ i, i < l → w.cell? ⟨b0, o0 + i, none⟩ = some (.int .i64 (z.getD i 0)) ∧ w.cell? ⟨b1, o1 + i, none⟩ = some (.int .i64 (z.getD i 0))) := fun i hi => ⟨hC0 i hi, hC1 i hi⟩
  have HA : Hid ((0 < l → a0 = some ⟨b0, o0, none⟩) ∧ (0 < l → a1 = some ⟨b1, o1, none⟩)) := ⟨hA0, hA1⟩
  clear hA0 hA1 hC0 hC1 h0 h1
  go_enter Trym.func9, Trym.ntmps9
  go_wp2
  go_loopg [5] l (fun g i wr => ∃ k : Nat, k ≤ l ∧ i = .int .i64 k ∧ g = l - k ∧ Below w.heap.size w wr ∧ ∀ b o, wr.cell? ⟨b, o, none⟩ = w.cell? ⟨b, o, none⟩)
  case atStart => exact ⟨0, Nat.zero_le _, rfl, rfl, Below.refl _ _, fun _ _ => rfl⟩
  case round =>
    obtain ⟨k, hk, rfl, hg, hb, hcc⟩ := hrel
    by_cases hlt : k < l
    · have hx0 := fun w => run_at w (cap := c0) Trym.underlying23 size2 HA.out.1 hlt
      have hx1 := fun w => run_at w (cap := c1) Trym.underlying23 size2 HA.out.2 hlt
      have hd0 : wr.cell? ⟨b0, o0 + k, none⟩ = some (.int .i64 (z.getD k 0)) := (hcc _ _).trans (H.out k hlt).1
      have hd1 : wr.cell? ⟨b1, o1 + k, none⟩ = some (.int .i64 (z.getD k 0)) := (hcc _ _).trans (H.out k hlt).2
      have Hg : Hid (gk = l - k) := hg
      have Hcc : Hid (∀ b o, wr.cell? ⟨b, o, none⟩ = w.cell? ⟨b, o, none⟩) := hcc
      clear hg hcc
      go_wp2
      go_quiet (fail)
      go_wp2
      go_roundg (l - (k + 1))
      case measure => rw [Hg.out]; omega
      case rel => exact ⟨k + 1, hlt, by go_num, rfl, hb.trans ⟨rfl, rfl, rfl, Nat.le_refl _, fun _ _ => rfl⟩, fun b o => Hcc.out b o⟩
    · go_wp2
      go_ret
      exact ⟨rfl, hb⟩
end Go.Proofs.Qxb6003613aMods
