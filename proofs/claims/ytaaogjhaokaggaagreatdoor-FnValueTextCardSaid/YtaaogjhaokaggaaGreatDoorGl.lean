import Derived.Test.YtaaogjhaokaggaaGreatDoorLawsU
import Derived.Test.YtaaogjhaokaggaaGreatDoorShelf
import Derived.Lib.AppendIntMem
import Derived.Shelf.Unicode.DecodeSlow
import GoSem.PinnedTables
namespace Go.Proofs.YtaaogjhaokaggaaGreatDoor
open Go.RowKit Go.Sort

/-- A row of the great table of powers of ten. -/
def p10 (i : Nat) : Nat × Nat := (Go.Pinned.pow10Rows[i]?).getD (0, 0)

/-- WHAT THE PACKAGE-LEVEL VARIABLES HOLD, but ErrValueOutOfRange (B: the heap's size when the law's call began; ea: of no use). -/
structure Gv (B : Nat) (ea : Addr) (w : World) : Prop where
  low : 15 ≤ B
  big : B ≤ w.heap.size
  utf8 : Lib.Utf8Tabs 2 3 w
  pow : Lib.TabIs Tryz.prog w "internal/strconv.uint64pow10" .u64 Lib.pow10Tab
  p10 : ∀ i, i < 696 → w.cell? ⟨8, 2 * i, none⟩ = some (.int .u64 (p10 i).1) ∧ w.cell? ⟨8, 2 * i + 1, none⟩ = some (.int .u64 (p10 i).2)
/-- The same with ErrValueOutOfRange (ea: where it points). -/
structure Gl (B : Nat) (ea : Addr) (w : World) : Prop extends Gv B ea w where
  eaB : ea.block < B
  err : w.cell? ⟨0, 0, none⟩ = some (.iface 195 (.pointer (some ea)))
  eaR : ∃ ca ta, w.heap[ea.block]? = some (.cells ca ta (0, 0))
theorem gPow : Tryz.prog.globalNamed "internal/strconv.uint64pow10" = some 1 := by kernel_rfl
theorem Gv.fr {B : Nat} {ea : Addr} {S : List Nat} {w w' : World} (h : Gv B ea w) (f : Fr S w w') (hS : ∀ s, s ∈ S → B ≤ s) : Gv B ea w' := by
  have hn : ∀ g, g < 15 → g ∉ S := fun g hg hm => by have := hS g hm; have := h.low; omega
  exact ⟨h.low, Nat.le_trans h.big f.size,
    ⟨fun c hc => f.cell (h.utf8.1 c hc) (hn 2 (by omega)), fun i hi => ⟨f.cell (h.utf8.2 i hi).1 (hn 3 (by omega)), f.cell (h.utf8.2 i hi).2 (hn 3 (by omega))⟩⟩,
    var?_below (f.below h.big hS) gPow (by have := h.low; omega) h.pow,
    fun i hi => ⟨f.cell (h.p10 i hi).1 (hn 8 (by omega)), f.cell (h.p10 i hi).2 (hn 8 (by omega))⟩⟩
theorem Gl.fr {B : Nat} {ea : Addr} {S : List Nat} {w w' : World} (h : Gl B ea w) (f : Fr S w w') (hS : ∀ s, s ∈ S → B ≤ s) : Gl B ea w' := by
  have hn : ∀ g, g < 15 → g ∉ S := fun g hg hm => by have := hS g hm; have := h.low; omega
  exact ⟨h.toGv.fr f hS, h.eaB, f.cell h.err (hn 0 (by omega)),
    by obtain ⟨ca, ta, h1⟩ := h.eaR; exact ⟨ca, ta, f.blk h1 (fun hm => by have := hS _ hm; have := h.eaB; omega)⟩⟩
theorem Gv.base {B : Nat} {ea : Addr} {w : World} (h : Gv B ea w) : Gv w.heap.size ea w :=
  { h with low := Nat.le_trans h.low h.big, big := Nat.le_refl _ }
end Go.Proofs.YtaaogjhaokaggaaGreatDoor
