/- PROVED HERE: a part of round r2's proofs (text OpenS): lemmas and walks that later texts use. CONDITIONS: those written ahead of each theorem. -/
import Derived.Test.YtpkkgngpjeoffaaGreatDoorSzT
import Derived.ProofKit
import Derived.Carry
import Derived.ChangeSame
import Derived.ChangeSlices
namespace Go.Proofs.YtpkkgngpjeoffaaGreatDoor
open Go.ChangeShapes Go.WideShapes Go.RowKit

theorem laidOutT : laidOutB Tryz.prog = true := by kernel_rfl
section
variable {H : Type} {enc : TypeId × Value → H} {w : World} {base : Nat} {spare : Nat → Bool} {held : Bool}
theorem spot_none {w : World} {a : Addr} {u : Value} (h : w.cell? a = some u) : a.spot = none ∧ a.block < w.heap.size := by
  refine ⟨?_, World.block_lt_of_cell? w a h⟩
  unfold World.cell? at h
  split at h
  · split at h
    · cases h
    · rename_i hh; simpa using hh
  · cases h
/-- A slice of whole numbers, as sizes. -/
theorem open_sizes {fuel : Nat} {cs : List Value} {x : DataW H × List MemPlace} (h : DataW.trod enc Tryz.prog w base spare held fuel 22 cs = some x) :
    ∃ (v : Value) (sz : List Int), cs = [v] ∧ SzS w w.heap.size v sz := by
  rcases open_ints Tryz.underlying22 Tryz.underlying3 (by kernel_rfl) h with ⟨rfl, _⟩ | ⟨a, len, cap, zs, rfl, _, hlc, _, hzl, _, hc, _⟩
  · exact ⟨_, [], rfl, none, 0, rfl, fun h => absurd rfl h⟩
  · have hl : len ≤ zs.length := by rw [hzl]; split <;> omega
    refine ⟨_, zs.take len, rfl, some a, cap, by rw [List.length_take, Nat.min_eq_left hl], fun hn => ?_⟩
    have h0 : 0 < len := by
      rcases Nat.eq_zero_or_pos len with e | e
      · exact absurd (by rw [e]; rfl) hn
      · exact e
    have e0 : a.add 0 = a := by simp [Addr.add]
    have h1 := hc 0 (by omega)
    rw [e0] at h1
    obtain ⟨hs, hb⟩ := spot_none h1
    obtain ⟨g, off, sp⟩ := a
    simp only at hs
    subst hs
    refine ⟨g, off, rfl, hb, fun i hi => ?_⟩
    rw [List.length_take, Nat.min_eq_left hl] at hi
    have h2 := hc i (by omega)
    have e1 : (⟨g, off, none⟩ : Addr).add i = ⟨g, off + i, none⟩ := by unfold Addr.add; split <;> simp_all
    rw [e1] at h2
    rw [h2, List.getElem_take]
    simp [List.getD, show i < zs.length by omega]
end
end Go.Proofs.YtpkkgngpjeoffaaGreatDoor
