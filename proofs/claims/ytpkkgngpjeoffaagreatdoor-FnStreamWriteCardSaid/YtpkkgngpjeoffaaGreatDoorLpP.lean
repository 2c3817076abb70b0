/- PROVED HERE: a part of round r2's proofs (text LpP): lemmas and walks that later texts use. CONDITIONS: those written ahead of each theorem. -/
import Derived.Test.YtpkkgngpjeoffaaGreatDoorNewR
namespace Go.Proofs.YtpkkgngpjeoffaaGreatDoor
open Go.RowKit

/-- How far the next size above 0 is. -/
def far (sz : List Int) : Nat → Nat → Nat
  | 0, _ => 0
  | k + 1, a => if 0 < szAt sz a then 0 else 1 + far sz k (a + 1)
theorem far_le (sz : List Int) : ∀ k a, far sz k a ≤ k
  | 0, _ => Nat.le_refl _
  | k + 1, a => by
    have := far_le sz k (a + 1)
    unfold far
    split <;> omega
theorem far_fuel (sz : List Int) : ∀ k a d, d < k → 0 < szAt sz (a + d) → far sz (k + 1) a = far sz k a
  | 0, _, _, h, _ => by omega
  | k + 1, a, d, h, h0 => by
    unfold far
    by_cases ha : 0 < szAt sz a
    · rw [if_pos ha, if_pos ha]
    · rw [if_neg ha, if_neg ha]
      have hd : d ≠ 0 := by rintro rfl; exact ha h0
      rw [far_fuel sz k (a + 1) (d - 1) (by omega) (by rw [show a + 1 + (d - 1) = a + d from by omega]; exact h0)]
theorem far_skip {sz : List Int} {a : Nat} (hp : anyPos sz = true) (h0 : szAt sz a ≤ 0) : far sz sz.length (a + 1) + 1 = far sz sz.length a := by
  have hex : ∃ n ∈ sz, 0 < n := by
    unfold anyPos at hp
    simpa using hp
  obtain ⟨d, hd, hf⟩ := far_ex hex a
  unfold Far at hf
  have hd0 : d ≠ 0 := by rintro rfl; rw [Nat.add_zero] at hf; omega
  obtain ⟨M, hM⟩ : ∃ M, sz.length = M + 1 := ⟨sz.length - 1, by omega⟩
  rw [hM, far_fuel sz M (a + 1) (d - 1) (by omega) (by rw [show a + 1 + (d - 1) = a + d from by omega]; exact hf)]
  have e : far sz (M + 1) a = 1 + far sz M (a + 1) := by
    show (if 0 < szAt sz a then 0 else 1 + far sz M (a + 1)) = _
    rw [if_neg (by omega)]
  omega
def mRd (sz : List Int) (a n : Nat) : Nat := n * (sz.length + 1) + far sz sz.length a
theorem take_ne {l : List UInt8} {n : Nat} (h : l ≠ []) (hn : n ≠ 0) : l.take n ≠ [] := by
  intro e
  have := congrArg List.length e
  rw [List.length_take, List.length_nil] at this
  have := List.length_pos_iff.2 h
  omega
theorem step_pos {sz : List Int} {a : Nat} (h : sz = [] ∨ 0 < szAt sz a) : stepN sz a ≠ 0 := by
  unfold stepN
  split
  · decide
  · rename_i hn
    have h := h.resolve_left hn
    omega
theorem step_zero {sz : List Int} {a : Nat} (hn : sz ≠ []) (h : szAt sz a ≤ 0) : stepN sz a = 0 := by
  unfold stepN
  rw [if_neg hn]
  omega
theorem round_run {sz : List Int} {a : Nat} {l : List UInt8} (hl : l ≠ []) :
    (l.take (stepN sz a) ≠ [] ∧ ∀ cs, Run sz (nextA sz a) (l.drop (stepN sz a)) cs → Run sz a l (l.take (stepN sz a) :: cs)) ∨
    (l.take (stepN sz a) = [] ∧ l.drop (stepN sz a) = l ∧ ∀ cs, Run sz (nextA sz a) l cs → Run sz a l cs) := by
  by_cases hz : sz = []
  · refine .inl ⟨take_ne hl (step_pos (.inl hz)), fun cs h => ?_⟩
    unfold stepN nextA at *
    rw [if_pos hz] at h ⊢
    rw [if_pos hz] at h
    exact .whole a l cs hz hl h
  · by_cases hp : 0 < szAt sz a
    · refine .inl ⟨take_ne hl (step_pos (.inr hp)), fun cs h => ?_⟩
      unfold stepN nextA at *
      rw [if_neg hz] at h ⊢
      rw [if_neg hz] at h
      exact .piece a l cs hz hl hp h
    · refine .inr ⟨by rw [step_zero hz (by omega), List.take_zero], by rw [step_zero hz (by omega), List.drop_zero], fun cs h => ?_⟩
      unfold nextA at h
      rw [if_neg hz] at h
      exact .skip a l cs hz hl (by omega) h
theorem round_meas {sz : List Int} {a : Nat} {l : List UInt8} (hl : l ≠ []) (he : sz = [] ∨ anyPos sz = true) : mRd sz (nextA sz a) (l.drop (stepN sz a)).length + 1 ≤ mRd sz a l.length := by
  have hl1 := List.length_pos_iff.2 hl
  unfold mRd
  by_cases hp : sz = [] ∨ 0 < szAt sz a
  · have hs := step_pos hp
    have h1 : (l.drop (stepN sz a)).length + 1 ≤ l.length := by rw [List.length_drop]; omega
    have h2 := far_le sz sz.length (nextA sz a)
    have h3 := Nat.mul_le_mul_right (sz.length + 1) h1
    rw [Nat.add_mul] at h3
    omega
  · have hz : sz ≠ [] := fun e => hp (.inl e)
    have h0 : szAt sz a ≤ 0 := by
      have : ¬ 0 < szAt sz a := fun e => hp (.inr e)
      omega
    rw [step_zero hz h0, List.drop_zero]
    have := far_skip (he.resolve_left hz) h0
    unfold nextA
    rw [if_neg hz]
    omega
/-- A chunk on the wire. -/
def chunkE (c : List UInt8) : List UInt8 := 59 :: (Lib.decDigits c.length ++ [13, 10] ++ if c = [] then [] else c ++ [13, 10])
theorem dec_len {n : Nat} (h : n ≤ 1000000000) : (Lib.decDigits n).length ≤ 21 := by
  have := Lib.itoa_length_le (n : Int) (by omega) (by omega)
  have e : Lib.itoa (n : Int) = Lib.decDigits n := by unfold Lib.itoa; rw [if_neg (by omega), Int.toNat_natCast]
  rw [e] at this
  omega
theorem chunkE_len {c : List UInt8} (h : c.length ≤ 1000000000) : (chunkE c).length ≤ 26 + c.length := by
  have := dec_len h
  unfold chunkE
  split <;> simp <;> omega
/-- What a reader's row says of the rounds that are left. -/
def mRow (sz : List Int) (r : Nat) (W : World) : Nat :=
  match W.heap[r]? with
  | some (.cells #[.string S, _, .int _ a, _] _ _) => mRd sz a.toNat S.size
  | _ => 0
theorem mRow_eq {sz : List Int} {r a : Nat} {W : World} {S : ByteArray} {sv x : Value} {k : IntKind} {t : TypeId} {fr : Nat × Nat} (h : W.heap[r]? = some (.cells #[.string S, sv, .int k a, x] t fr)) : mRow sz r W = mRd sz a S.size := by
  unfold mRow
  rw [h]
  rfl
end Go.Proofs.YtpkkgngpjeoffaaGreatDoor
