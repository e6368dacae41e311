import Derived.Test.Qxb6000716aModsRows
import Derived.Test.Qxb6000716aModsPlain
import Derived.WalkKit
import Derived.ProofKit
import Derived.Below
import Derived.Deep.LoopGhost
import Derived.WalkSpells
import Derived.WalkLawsBesides
import Derived.Laws.Rows
import Derived.Laws.BitsAllLaws
namespace Go.Proofs.Qxb6000716aMods
open Go.RowKit

/-- A slice of bytes as a function is handed it. -/
structure BytesAt (w : World) (ao : Option Addr) (len b off : Nat) (zs : List Int) : Prop where
  len_eq : zs.length = len
  addr : 0 < len → ao = some ⟨b, off, none⟩
  lt : 0 < len → b < w.heap.size
  cell : ∀ i, i < len → w.cell? ⟨b, off + i, none⟩ = some (.int .u8 (zs.getD i 0))
  wf : ∀ z ∈ zs, (Lit.int .u8 z).wf = true

theorem BytesAt.below {w w' : World} {ao : Option Addr} {len b off : Nat} {zs : List Int} (h : BytesAt w ao len b off zs) {B : Nat} (hb : Below B w w') (hB : 0 < len → b < B) : BytesAt w' ao len b off zs :=
  ⟨h.len_eq, h.addr, fun h0 => Nat.lt_of_lt_of_le (h.lt h0) hb.size, fun i hi => (hb.cell (p := ⟨b, off + i, none⟩) (hB (by omega))).trans (h.cell i hi), h.wf⟩

theorem bounds_u8 {n : Int} (h : (Lit.int .u8 n).wf = true) : 0 ≤ n ∧ n ≤ 255 := by
  simp [Lit.wf, IntKind.min, IntKind.max, IntKind.signed, IntKind.bits] at h
  omega

/-- Byte q of the scalar, from its 32nd byte down. -/
def sb (zs : List Int) (q : Nat) : Nat := (zs.getD (31 - q) 0).toNat
/-- The scalar as a number. -/
def scal (zs : List Int) : Nat := num (sb zs) 32

theorem getD_u8 {zs : List Int} (h : ∀ z ∈ zs, (Lit.int .u8 z).wf = true) (i : Nat) : 0 ≤ zs.getD i 0 ∧ zs.getD i 0 ≤ 255 := by
  by_cases hi : i < zs.length
  · rw [List.getD, List.getElem?_eq_getElem hi]
    exact bounds_u8 (h _ (List.getElem_mem hi))
  · rw [List.getD, List.getElem?_eq_none (by omega)]
    decide
theorem sb_lt {zs : List Int} (h : ∀ z ∈ zs, (Lit.int .u8 z).wf = true) (q : Nat) : sb zs q < 256 := by
  have := getD_u8 h (31 - q)
  unfold sb
  omega
theorem scal_lt {zs : List Int} (h : ∀ z ∈ zs, (Lit.int .u8 z).wf = true) : scal zs < 2 ^ 256 := num_lt _ (sb_lt h) 32
theorem scal_byte {zs : List Int} (h : ∀ z ∈ zs, (Lit.int .u8 z).wf = true) {q : Nat} (hq : q < 32) : zs.getD (31 - q) 0 = ((scal zs / 256 ^ q % 256 : Nat) : Int) := by
  unfold scal
  rw [num_byte _ (sb_lt h) 32 q hq]
  have := getD_u8 h (31 - q)
  unfold sb
  omega
theorem cells24 : (Trym.prog.info? 24).map (·.size) = some 43 := by kernel_rfl
theorem cells27 : (Trym.prog.info? 27).map (·.size) = some 4 := by kernel_rfl
end Go.Proofs.Qxb6000716aMods
