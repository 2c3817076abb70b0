/- PROVED HERE: a part of round r2's proofs (text LwP): lemmas and walks that later texts use. CONDITIONS: those written ahead of each theorem. -/
import Derived.Test.YtpkkgngpjeoffaaGreatDoorScW
namespace Go.Proofs.YtpkkgngpjeoffaaGreatDoor
open Go.RowKit

theorem Run.count {sz : List Int} {a : Nat} {l : List UInt8} {cs : List (List UInt8)} (h : Run sz a l cs) : cs.length ≤ l.length := by
  have h1 := h.text
  have h2 := h.ne
  clear h
  induction cs generalizing l with
  | nil => exact Nat.zero_le _
  | cons c cs ih =>
    rw [List.flatten_cons] at h1
    have h3 := ih (l := cs.flatten) rfl (fun x hx => h2 x (List.mem_cons_of_mem _ hx))
    have h4 := List.length_pos_iff.2 (h2 c (by simp)).1
    rw [← h1, List.length_append, List.length_cons]
    omega
theorem wireE_len : ∀ (cs : List (List UInt8)), (∀ c ∈ cs, c ≠ [] ∧ c.length ≤ 1024) → ((cs.map chunkE).flatten).length ≤ 1100 * cs.length
  | [], _ => by simp
  | c :: cs, h => by
    have h1 := wireE_len cs (fun x hx => h x (List.mem_cons_of_mem _ hx))
    have h2 := (h c (by simp)).2
    have h3 := chunkE_len (c := c) (by omega)
    rw [List.map_cons, List.flatten_cons, List.length_append, List.length_cons]
    omega
theorem wireE_size {sz : List Int} {l : List UInt8} {cs : List (List UInt8)} (h : Run sz 0 l cs) (hl : l.length ≤ 5000) : (⟨(wireE cs).toArray⟩ : ByteArray).size ≤ 1000000000 := by
  have h1 := wireE_len cs h.ne
  have h2 := h.count
  have h3 := chunkE_len (c := []) (by simp)
  have e : (⟨(wireE cs).toArray⟩ : ByteArray).size = (wireE cs).length := by simp [ByteArray.size]
  rw [e]
  unfold wireE
  simp only [List.length_append, List.length_cons, List.length_nil] at *
  omega
theorem run_end {sz : List Int} {a : Nat} {l : List UInt8} (h : Run sz a l []) : l = [] := by
  have := h.text
  simpa using this.symm
end Go.Proofs.YtpkkgngpjeoffaaGreatDoor
