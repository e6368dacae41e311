import Derived.Test.Qxb6003613aModsRows
import Derived.WalkKit
import Derived.ProofKit
import Derived.Below
import Derived.Deep.LoopGhost
import Derived.Maps.OwnSet
import Derived.WalkSpells
import Derived.WalkLawsBesides
namespace Go.Proofs.Qxb6003613aMods
open Go.RowKit Go.Maps

/-- A slice of int64 as a function is handed it: its elements, its address known where it has one element at least. -/
structure IntsAt (w : World) (ao : Option Addr) (len b off : Nat) (zs : List Int) : Prop where
  len_eq : zs.length = len
  addr : 0 < len → ao = some ⟨b, off, none⟩
  lt : 0 < len → b < w.heap.size
  cell : ∀ i, i < len → w.cell? ⟨b, off + i, none⟩ = some (.int .i64 (zs.getD i 0))
  wf : ∀ z ∈ zs, (Lit.int .i64 z).wf = true

theorem IntsAt.below {w w' : World} {ao : Option Addr} {len b off : Nat} {zs : List Int} (h : IntsAt w ao len b off zs) {B : Nat} (hb : Below B w w') (hB : 0 < len → b < B) : IntsAt w' ao len b off zs :=
  ⟨h.len_eq, h.addr, fun h0 => Nat.lt_of_lt_of_le (h.lt h0) hb.size, fun i hi => (hb.cell (p := ⟨b, off + i, none⟩) (hB (by omega))).trans (h.cell i hi), h.wf⟩

/-- 'a[i]' at an index within the length: the address, whatever is known of an empty slice's. -/
theorem run_at (w : World) {t : TypeId} {e : TypeId} (ht : Trym.prog.underlying t = some (.slice e)) (he : ∀ w, (Go.sizeOf e).run Trym.prog w = .ok 1 w) {ao : Option Addr} {len cap b off i : Nat} (ha : 0 < len → ao = some ⟨b, off, none⟩) (hi : i < len) :
    (Instr.indexAt t (.slice ao len cap) (.int .i64 (i : Int))).run Trym.prog w = .ok (.pointer (some ⟨b, off + i, none⟩)) w := by
  have hao := ha (by omega)
  subst hao
  simp [Instr.indexAt, run_underlying ht, he, Result.andThen, asIntOf, Addr.add, hi]

theorem size2 (w : World) : (Go.sizeOf 2).run Trym.prog w = .ok 1 w := by kernel_rfl
theorem size23 (w : World) : (Go.sizeOf 23).run Trym.prog w = .ok 1 w := by kernel_rfl
end Go.Proofs.Qxb6003613aMods
