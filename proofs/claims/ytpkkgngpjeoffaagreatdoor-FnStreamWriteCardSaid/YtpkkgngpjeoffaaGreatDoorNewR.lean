/- PROVED HERE: a part of round r2's proofs (text NewR): lemmas and walks that later texts use. CONDITIONS: those written ahead of each theorem. -/
import Derived.Test.YtpkkgngpjeoffaaGreatDoorRdP
namespace Go.Proofs.YtpkkgngpjeoffaaGreatDoor
open Go.RowKit

def anyPos (sz : List Int) : Bool := sz.any (fun n => decide (0 < n))
/-- The sizes that the reader goes by. -/
def effS (sz : List Int) : List Int := if anyPos sz = true then sz else []
theorem anyPos_succ (sz : List Int) (k : Nat) (h : k < sz.length) : anyPos (sz.take (k + 1)) = (anyPos (sz.take k) || decide (0 < sz[k])) := by
  unfold anyPos
  rw [← List.take_append_getElem h, List.any_append]
  simp
theorem anyPos_ne {sz : List Int} (h : anyPos sz = true) : sz ≠ [] := by
  rintro rfl
  simp [anyPos] at h
def NrQ (w : World) (B : Nat) (S : ByteArray) (sz : List Int) (e : Ending) (w' : World) : Prop :=
  ∃ r sv, e = .returned (.pointer (some ⟨r, 0, none⟩)) ∧ Fr [] w w' ∧ w.heap.size ≤ r ∧ w'.heap[r]? = some (.cells #[.string S, sv, .int .i64 0, .bool false] 82 (0, 0)) ∧ SzS w' B sv (effS sz) ∧ (effS sz = [] → sv = .slice none 0 0)
set_option maxRecDepth 100000 in
set_option maxHeartbeats 1000000 in
theorem newReader_any {B : Nat} (S : ByteArray) (sv : Value) (sz : List Int) (w : World) (hsv : SzS w B sv sz) (hsl : sz.length ≤ 1000) :
    Calls Tryz.prog 14 #[.string S, sv, .bool false] w (NrQ w B S sz) := by
  have HSV := Lib.hid hsv
  obtain ⟨ao, sc, rfl, hsv⟩ := hsv
  obtain ⟨N, hN⟩ : ∃ N, N = sz.length := ⟨_, rfl⟩
  have hcell : ∀ k, (h : k < sz.length) → ∃ g off, ao = some ⟨g, off, none⟩ ∧ w.cell? ⟨g, off + k, none⟩ = some (.int .i64 sz[k]) := by
    intro k h
    obtain ⟨g, off, h1, h2, h3⟩ := hsv (by rintro rfl; simp at h)
    exact ⟨g, off, h1, h3 k h⟩
  have HC := Lib.hid hcell
  rw [← hN]
  have HN := Lib.hid hN
  have hN2 : N ≤ 1000 := by omega
  clear hsv hcell hN hsl
  go_enter Tryz.func14, Tryz.ntmps14
  go_wp2_with fail
  go_loopw [7, 12] (fun b i wr => ∃ k : Nat, k ≤ N ∧ i = .int .i64 k ∧ b = .bool (anyPos (sz.take k)) ∧ wr = w) (fun _ i _ => N - (intOf i).toNat)
  case atStart => exact ⟨0, by omega, rfl, rfl, rfl⟩
  case round =>
    obtain ⟨k, hk, rfl, rfl, rfl⟩ := hrel
    by_cases hlt : k < N
    · have hlt' : k < sz.length := by rw [← HN.out]; exact hlt
      have hsu := anyPos_succ sz k hlt'
      obtain ⟨g, off, rfl, hc⟩ := HC.out k hlt'
      obtain ⟨x, hx⟩ : ∃ x, x = sz[k] := ⟨_, rfl⟩
      rw [← hx] at hsu hc
      obtain ⟨b', hb'⟩ : ∃ b, b = anyPos (sz.take (k + 1)) := ⟨_, rfl⟩
      obtain ⟨b, hb⟩ : ∃ b, b = anyPos (sz.take k) := ⟨_, rfl⟩
      rw [← hb', ← hb] at hsu
      rw [← hb]
      have HB' := Lib.hid hb'
      have HSU := Lib.hid hsu
      clear hb' hb hsu hx
      cases b with
      | true =>
        go_wp2_with fail
        go_roundw
        case rel => exact ⟨k + 1, by omega, by go_num, by rw [← HB'.out, HSU.out]; rfl, trivial⟩
        case measure => simp [intOf]; omega
      | false =>
        go_wp2_with fail
        all_goals
          go_roundw
          case rel => exact ⟨k + 1, by omega, by go_num, by rw [← HB'.out, HSU.out]; rfl, trivial⟩
          case measure => simp [intOf]; omega
    · have hkN : k = N := by omega
      subst hkN
      obtain ⟨b, hb⟩ : ∃ b, b = anyPos (sz.take k) := ⟨_, rfl⟩
      rw [← hb]
      rw [HN.out, List.take_length] at hb
      have HB := Lib.hid hb
      clear hb
      cases b with
      | true =>
        go_wp2_with fail
        go_ret
        have e : effS sz = sz := if_pos HB.out.symm
        refine ⟨_, _, rfl, (Fr.refl [] _).alloc _, Nat.le_refl _, heap_alloc_new _ _, ?_, fun h => absurd (e.symm.trans h) (anyPos_ne HB.out.symm)⟩
        rw [e, HN.out]
        exact HSV.out.fr ((Fr.refl [] _).alloc _) (fun _ h => by cases h)
      | false =>
        go_wp2_with fail
        go_ret
        have e : effS sz = [] := if_neg (by rw [← HB.out]; decide)
        exact ⟨_, _, rfl, (Fr.refl [] _).alloc _, Nat.le_refl _, heap_alloc_new _ _, ⟨none, 0, by rw [e]; rfl, fun h => absurd e h⟩, fun _ => rfl⟩
end Go.Proofs.YtpkkgngpjeoffaaGreatDoor
