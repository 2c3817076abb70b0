import Derived.Test.YtaaogjhaokaggaaGreatDoorFlt4b
import Derived.Test.YtaaogjhaokaggaaGreatDoorValN
namespace Go.Proofs.YtaaogjhaokaggaaGreatDoor
open Go.RowKit

theorem fin64_iff (n : Nat) : fin64 n = true ↔ n % 9223372036854775808 < 9218868437227405312 := by
  unfold fin64
  simp only [bne_iff_ne, ne_eq]
  omega

set_option maxRecDepth 100000 in
set_option maxHeartbeats 2000000 in
theorem floatValue_any : FloatValueSaid := by
  intro n w
  have HA := Lib.hid (heap_alloc_new w (.cells #[.int .u64 0, .slice none 0 0, .int .u8 0] 69))
  have hb := fun w => run_bits w n
  by_cases h1 : n % 9223372036854775808 = 9218868437227405312
  · have hi : ∀ w, Calls Tryz.prog 100 #[.float .f64 n, .int .i64 0] w fun e w' => e = .returned (.bool true) ∧ w' = w := fun w => by have := isInf_any n w; rw [decide_eq_true h1] at this; exact this
    have HI := Lib.hid hi; clear hi
    rw [show fin64 n = false from by rw [Bool.eq_false_iff]; intro h; rw [fin64_iff] at h; omega]
    rw [if_neg (by decide)]
    clear h1
    go_enter Tryz.func61, Tryz.ntmps61
    go_wp2_with (go_at_call 100; refine (HI.out _).mono ?_; rintro e w1 ⟨rfl, rfl⟩)
    (try simp only [Exit.inBlock, Exit.then])
    refine bodyPost_ret (results_row_tmp rfl _ _ w.heap.size 69 #[.int .u64 0, .slice none 0 0, .int .u8 0] (0, 0) _ rfl ?_ Tryz.underlying69 rfl rfl) rfl ?_
    · exact heap_alloc_new _ _
    · refine ⟨?_, _, rfl, _, _, _, _, _, rfl⟩
      repeat (refine Fr.setCell ?_ (.inr (by simp)) _)
      exact (Fr.refl [] w).alloc _
  · have hi : ∀ w, Calls Tryz.prog 100 #[.float .f64 n, .int .i64 0] w fun e w' => e = .returned (.bool false) ∧ w' = w := fun w => by have := isInf_any n w; rw [decide_eq_false h1] at this; exact this
    have HI := Lib.hid hi; clear hi
    by_cases h2 : 9218868437227405312 < n % 9223372036854775808
    · have hn : ∀ w, Calls Tryz.prog 101 #[.float .f64 n] w fun e w' => e = .returned (.bool true) ∧ w' = w := fun w => by have := isNaN_any n w; rw [decide_eq_true h2] at this; exact this
      have HN := Lib.hid hn; clear hn
      rw [show fin64 n = false from by rw [Bool.eq_false_iff]; intro h; rw [fin64_iff] at h; omega]
      rw [if_neg (by decide)]
      clear h1 h2
      go_enter Tryz.func61, Tryz.ntmps61
      go_wp2_with (first | (go_at_call 100; refine (HI.out _).mono ?_; rintro e w1 ⟨rfl, rfl⟩) | (go_at_call 101; refine (HN.out _).mono ?_; rintro e w1 ⟨rfl, rfl⟩))
      (try simp only [Exit.inBlock, Exit.then])
      refine bodyPost_ret (results_row_tmp rfl _ _ w.heap.size 69 #[.int .u64 0, .slice none 0 0, .int .u8 0] (0, 0) _ rfl ?_ Tryz.underlying69 rfl rfl) rfl ?_
      · exact heap_alloc_new _ _
      · refine ⟨?_, _, rfl, _, _, _, _, _, rfl⟩
        repeat (refine Fr.setCell ?_ (.inr (by simp)) _)
        exact (Fr.refl [] w).alloc _
    · have hn : ∀ w, Calls Tryz.prog 101 #[.float .f64 n] w fun e w' => e = .returned (.bool false) ∧ w' = w := fun w => by have := isNaN_any n w; rw [decide_eq_false h2] at this; exact this
      have HN := Lib.hid hn; clear hn
      rw [show fin64 n = true from by rw [fin64_iff]; omega]
      rw [if_pos rfl]
      clear h1 h2
      go_enter Tryz.func61, Tryz.ntmps61
      go_wp2_with (first | (go_at_call 100; refine (HI.out _).mono ?_; rintro e w1 ⟨rfl, rfl⟩) | (go_at_call 101; refine (HN.out _).mono ?_; rintro e w1 ⟨rfl, rfl⟩))
      (try simp only [Exit.inBlock, Exit.then])
      refine bodyPost_ret (results_row_tmp rfl _ _ w.heap.size 69 #[.int .u64 n, .slice none 0 0, .int .u8 4] (0, 0) _ rfl ?_ Tryz.underlying69 rfl rfl) rfl ?_
      · exact heap_alloc_new _ _
      · refine ⟨?_, _, rfl, ?_, ?_⟩
        · repeat (refine Fr.setCell ?_ (.inr (by simp)) _)
          exact (Fr.refl [] w).alloc _
        · exact rfl
        · intro g hg; simp [lvBlock, Value.ownBlock] at hg
end Go.Proofs.YtaaogjhaokaggaaGreatDoor
