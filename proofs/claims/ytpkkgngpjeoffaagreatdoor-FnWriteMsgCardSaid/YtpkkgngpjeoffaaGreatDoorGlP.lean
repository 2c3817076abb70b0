/- PROVED HERE: what the walks of floats' text need of the package-level variables (Gv, and the table of powers of ten). -/
import Derived.Test.YtpkkgngpjeoffaaGreatDoorGlR
import GoSem.PinnedTables
namespace Go.Proofs.YtpkkgngpjeoffaaGreatDoor
open Go.RowKit

def p10 (i : Nat) : Nat × Nat := (Go.Pinned.pow10Rows[i]?).getD (0, 0)
structure Gp (B : Nat) (ea : Addr) (w : World) : Prop extends Gv B ea w where
  low2 : 17 ≤ B
  p10 : ∀ i, i < 696 → w.cell? ⟨13, 2 * i, none⟩ = some (.int .u64 (p10 i).1) ∧ w.cell? ⟨13, 2 * i + 1, none⟩ = some (.int .u64 (p10 i).2)
theorem Gp.fr {B : Nat} {ea : Addr} {S : List Nat} {w w' : World} (h : Gp B ea w) (f : Fr S w w') (hS : ∀ s, s ∈ S → B ≤ s) : Gp B ea w' := by
  have hl := h.low2
  have hn : 13 ∉ S := fun hm => by have := hS _ hm; omega
  exact { h.toGv.fr f hS with low2 := hl, p10 := fun i hi => ⟨f.cell (h.p10 i hi).1 hn, f.cell (h.p10 i hi).2 hn⟩ }
theorem Gp.base {B : Nat} {ea : Addr} {w : World} (h : Gp B ea w) : Gp w.heap.size ea w :=
  { h.toGv.base with low2 := Nat.le_trans h.low2 h.big, p10 := h.p10 }
end Go.Proofs.YtpkkgngpjeoffaaGreatDoor
