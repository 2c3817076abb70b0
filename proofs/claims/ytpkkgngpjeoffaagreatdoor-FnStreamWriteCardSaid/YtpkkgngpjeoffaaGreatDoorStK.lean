/- PROVED HERE: a part of round r2's proofs (text StK): lemmas and walks that later texts use. CONDITIONS: those written ahead of each theorem. -/
import Derived.Test.YtpkkgngpjeoffaaGreatDoorStL
namespace Go.Proofs.YtpkkgngpjeoffaaGreatDoor
open Go.RowKit

set_option maxRecDepth 100000 in
/-- laws.FnStreamWrite (func 3): true, of whatever text and sizes. -/
theorem stream_walk {ea : Addr} (S : ByteArray) (sv : Value) (sz : List Int) (w : World) (hG : Gv w.heap.size ea w) (hsv : SzS w w.heap.size sv sz) :
    Calls Tryz.prog 3 #[.string S, sv] w (StG w) := by
  by_cases h1 : S.size ≤ 5000
  · by_cases h2 : sz.length ≤ 50
    · exact stream_law S _ sv sz w hG hsv rfl h1 h2
    · obtain ⟨ao, sc, rfl, _⟩ := hsv
      obtain ⟨N, hN⟩ : ∃ N, N = sz.length := ⟨_, rfl⟩
      rw [← hN] at h2 ⊢
      have d1 : decide ((2147483647 : Int) < (S.size : Int)) = false := decide_eq_false (by omega)
      have d2 : decide ((5000 : Int) < (S.size : Int)) = false := decide_eq_false (by omega)
      have e1 : ¬ ((2147483647 : Int) < (S.size : Int)) := by omega
      have e2 : ¬ ((5000 : Int) < (S.size : Int)) := by omega
      have d4 : decide ((50 : Int) < (N : Int)) = true := decide_eq_true (by omega)
      have e4 : (50 : Int) < (N : Int) := by omega
      clear hG hN h1 h2
      go_enter Tryz.func3, Tryz.ntmps3
      go_wp2_with fail
      all_goals
        go_ret
        exact ⟨rfl, Fr.refl _ _⟩
  · obtain ⟨ao, sc, rfl, _⟩ := hsv
    have d2 : decide ((5000 : Int) < (S.size : Int)) = true := decide_eq_true (by omega)
    have e2 : (5000 : Int) < (S.size : Int) := by omega
    clear hG h1
    go_enter Tryz.func3, Tryz.ntmps3
    go_wp2_with fail
    all_goals
      go_ret
      exact ⟨rfl, Fr.refl _ _⟩
end Go.Proofs.YtpkkgngpjeoffaaGreatDoor
