import Derived.Test.YtaaogjhaokaggaaGreatDoorValB
import Derived.Laws.BitsLemmas
namespace Go.Proofs.YtaaogjhaokaggaaGreatDoor
open Go.RowKit

/-! ### What a 64-bit float's word stands for. -/
theorem rd_small (n : Nat) (h : n % 9223372036854775808 < 4503599627370496) : FloatKind.f64.format.read n = .number (n / 9223372036854775808 % 2 == 1) (n % 9223372036854775808) (-1074) := by
  have : FloatKind.f64.format.read n = if n % 9223372036854775808 < 4503599627370496 then .number (n / 9223372036854775808 % 2 == 1) (n % 9223372036854775808) (-1074) else if n % 9223372036854775808 < 9218868437227405312 then .number (n / 9223372036854775808 % 2 == 1) (4503599627370496 + n % 9223372036854775808 % 4503599627370496) (-1074 + (n % 9223372036854775808 / 4503599627370496 - 1 : Nat)) else if n % 9223372036854775808 = 9218868437227405312 then .infinity (n / 9223372036854775808 % 2 == 1) else .nan (n / 9223372036854775808 % 2 == 1) (n % 9223372036854775808 - 9218868437227405312) := rfl
  rw [this, if_pos h]
theorem rd_num (n : Nat) (h0 : ¬ n % 9223372036854775808 < 4503599627370496) (h : n % 9223372036854775808 < 9218868437227405312) : FloatKind.f64.format.read n = .number (n / 9223372036854775808 % 2 == 1) (4503599627370496 + n % 9223372036854775808 % 4503599627370496) (-1074 + (n % 9223372036854775808 / 4503599627370496 - 1 : Nat)) := by
  have : FloatKind.f64.format.read n = if n % 9223372036854775808 < 4503599627370496 then .number (n / 9223372036854775808 % 2 == 1) (n % 9223372036854775808) (-1074) else if n % 9223372036854775808 < 9218868437227405312 then .number (n / 9223372036854775808 % 2 == 1) (4503599627370496 + n % 9223372036854775808 % 4503599627370496) (-1074 + (n % 9223372036854775808 / 4503599627370496 - 1 : Nat)) else if n % 9223372036854775808 = 9218868437227405312 then .infinity (n / 9223372036854775808 % 2 == 1) else .nan (n / 9223372036854775808 % 2 == 1) (n % 9223372036854775808 - 9218868437227405312) := rfl
  rw [this, if_neg h0, if_pos h]
theorem rd_inf (n : Nat) (h : n % 9223372036854775808 = 9218868437227405312) : FloatKind.f64.format.read n = .infinity (n / 9223372036854775808 % 2 == 1) := by
  have : FloatKind.f64.format.read n = if n % 9223372036854775808 < 4503599627370496 then .number (n / 9223372036854775808 % 2 == 1) (n % 9223372036854775808) (-1074) else if n % 9223372036854775808 < 9218868437227405312 then .number (n / 9223372036854775808 % 2 == 1) (4503599627370496 + n % 9223372036854775808 % 4503599627370496) (-1074 + (n % 9223372036854775808 / 4503599627370496 - 1 : Nat)) else if n % 9223372036854775808 = 9218868437227405312 then .infinity (n / 9223372036854775808 % 2 == 1) else .nan (n / 9223372036854775808 % 2 == 1) (n % 9223372036854775808 - 9218868437227405312) := rfl
  rw [this, if_neg (by omega), if_neg (by omega), if_pos h]
theorem rd_nan (n : Nat) (h : 9218868437227405312 < n % 9223372036854775808) : FloatKind.f64.format.read n = .nan (n / 9223372036854775808 % 2 == 1) (n % 9223372036854775808 - 9218868437227405312) := by
  have : FloatKind.f64.format.read n = if n % 9223372036854775808 < 4503599627370496 then .number (n / 9223372036854775808 % 2 == 1) (n % 9223372036854775808) (-1074) else if n % 9223372036854775808 < 9218868437227405312 then .number (n / 9223372036854775808 % 2 == 1) (4503599627370496 + n % 9223372036854775808 % 4503599627370496) (-1074 + (n % 9223372036854775808 / 4503599627370496 - 1 : Nat)) else if n % 9223372036854775808 = 9218868437227405312 then .infinity (n / 9223372036854775808 % 2 == 1) else .nan (n / 9223372036854775808 % 2 == 1) (n % 9223372036854775808 - 9218868437227405312) := rfl
  rw [this, if_neg (by omega), if_neg (by omega), if_neg (by omega)]
theorem cmp_self (a : Int) : compare a a = .eq := by simp [compare, compareOfLessAndEq]
theorem ord_self_num (s : Bool) (m : Nat) (i : Int) : (Ieee.Datum.number s m i).order (.number s m i) = some .eq := by
  simp [Ieee.Datum.order]
/-- Is it itself? Only a NaN is not. -/
theorem nan_any (n : Nat) : (FloatKind.f64.format.order n n != some .eq) = decide (9218868437227405312 < n % 9223372036854775808) := by
  show ((FloatKind.f64.format.read n).order (FloatKind.f64.format.read n) != some .eq) = _
  by_cases h0 : n % 9223372036854775808 < 4503599627370496
  · rw [rd_small n h0, ord_self_num, decide_eq_false (by omega)]; rfl
  · by_cases h1 : n % 9223372036854775808 < 9218868437227405312
    · rw [rd_num n h0 h1, ord_self_num, decide_eq_false (by omega)]; rfl
    · by_cases h2 : n % 9223372036854775808 = 9218868437227405312
      · rw [rd_inf n h2, decide_eq_false (by omega)]
        simp [Ieee.Datum.order]
      · rw [rd_nan n (by omega), decide_eq_true (by omega)]
        rfl
theorem rd_max : FloatKind.f64.format.read 9218868437227405311 = .number false 9007199254740991 971 := by kernel_rfl
theorem not_gt (m k : Nat) (hm : m ≤ 9007199254740991) : compare (Ieee.signed false m 0) (Ieee.signed false 9007199254740991 k) ≠ .gt := by
  have h1 : (Ieee.signed false m 0) = (m : Int) := by simp [Ieee.signed]
  have h2 : (Ieee.signed false 9007199254740991 k) = ((9007199254740991 * 2 ^ k : Nat) : Int) := by simp [Ieee.signed, Nat.shiftLeft_eq]
  rw [h1, h2]
  have h3 : 1 ≤ 2 ^ k := Nat.one_le_two_pow
  have h4 : m ≤ 9007199254740991 * 2 ^ k := Nat.le_trans hm (Nat.le_mul_of_pos_right _ (by omega))
  simp only [compare, compareOfLessAndEq]
  split
  · decide
  · split
    · decide
    · omega
theorem not_gt_num (m : Nat) (i : Int) (hm : m ≤ 9007199254740991) (hi : i ≤ 971) : ((Ieee.Datum.number false m i).order (.number false 9007199254740991 971) == some .gt) = false := by
  simp only [Ieee.Datum.order]
  have e : min i 971 = i := by omega
  rw [e, Int.sub_self]
  have := not_gt m (971 - i).toNat hm
  simpa using this
/-- Of a word without a sign: is it above all numbers? Only infinity is. -/
theorem inf_any (n : Nat) (hn : n < 9223372036854775808) : (FloatKind.f64.format.order n 9218868437227405311 == some .gt) = decide (n = 9218868437227405312) := by
  show ((FloatKind.f64.format.read n).order (FloatKind.f64.format.read 9218868437227405311) == some .gt) = _
  have e : n % 9223372036854775808 = n := Nat.mod_eq_of_lt hn
  have es : (n / 9223372036854775808 % 2 == 1) = false := by rw [Nat.div_eq_of_lt hn]; rfl
  rw [rd_max]
  by_cases h0 : n < 4503599627370496
  · rw [rd_small n (by rw [e]; exact h0), es, e, not_gt_num n _ (by omega) (by omega), decide_eq_false (by omega)]
  · by_cases h1 : n < 9218868437227405312
    · rw [rd_num n (by rw [e]; exact h0) (by rw [e]; exact h1), es, e, not_gt_num _ _ (by omega) (by omega), decide_eq_false (by omega)]
    · by_cases h2 : n = 9218868437227405312
      · rw [rd_inf n (by rw [e]; exact h2), es, decide_eq_true h2]; rfl
      · rw [rd_nan n (by rw [e]; omega), decide_eq_false h2]; rfl
theorem andNot63 (n : Nat) : bits .andNot .u64 (n : Int) 9223372036854775808 = ((n % 9223372036854775808 : Nat) : Int) := by
  have e : BitVec.ofInt 64 (n : Int) = BitVec.ofNat 64 n := by simp
  have e2 : (BitVec.ofNat 64 n &&& ~~~ (BitVec.ofInt 64 9223372036854775808)) = BitVec.ofNat 64 (n % 9223372036854775808) := by
    apply BitVec.eq_of_getLsbD_eq
    intro i hi
    rw [BitVec.getLsbD_and, BitVec.getLsbD_not, show BitVec.ofInt 64 9223372036854775808 = BitVec.ofNat 64 (2 ^ 63) from rfl, BitVec.getLsbD_ofNat, BitVec.getLsbD_ofNat, BitVec.getLsbD_ofNat, Nat.testBit_two_pow, show (9223372036854775808 : Nat) = 2 ^ 63 from rfl, Nat.testBit_mod_two_pow]
    by_cases h63 : i = 63
    · subst h63; simp
    · have : i < 63 := by omega
      simp [this, hi, Ne.symm h63]
  show (IntKind.u64).wrap ((BitVec.ofInt 64 (n : Int) &&& ~~~ (BitVec.ofInt 64 9223372036854775808)).toNat : Int) = _
  rw [e, e2, IntKind.wrap_u64, BitVec.toNat_ofNat]
  omega
end Go.Proofs.YtaaogjhaokaggaaGreatDoor
namespace Go.Proofs.YtaaogjhaokaggaaGreatDoor
open Go.RowKit

theorem run_bits2 (w : World) (n : Nat) : (callFunc 102 #[.float .f64 n]).run Tryz.prog w = .ok (.value (.int .u64 n)) w := run_bits w n
set_option maxRecDepth 100000 in
theorem abs_any (n : Nat) (w : World) : Calls Tryz.prog 131 #[.float .f64 n] w fun e w' => e = .returned (.float .f64 (n % 9223372036854775808)) ∧ w' = w := by
  have hb := fun w => run_bits w n
  have hf : ∀ w : World, (callFunc 104 #[.int .u64 ((n : Int) % 9223372036854775808)]).run Tryz.prog w = .ok (.value (.float .f64 (n % 9223372036854775808))) w := fun w => run_frombits w (n % 9223372036854775808)
  have ha := andNot63 n
  go_enter Tryz.func131, Tryz.ntmps131
  go_wp2
  go_ret
  exact ⟨rfl, rfl⟩
set_option maxRecDepth 100000 in
theorem isInf_any (n : Nat) (w : World) : Calls Tryz.prog 100 #[.float .f64 n, .int .i64 0] w fun e w' => e = .returned (.bool (decide (n % 9223372036854775808 = 9218868437227405312))) ∧ w' = w := by
  have hi := inf_any (n % 9223372036854775808) (Nat.mod_lt _ (by decide))
  go_enter Tryz.func100, Tryz.ntmps100
  go_wp2_with (go_at_call 131; refine (abs_any n _).mono ?_; rintro e w1 ⟨rfl, rfl⟩)
  rw [← hi]
  go_ret
  exact ⟨rfl, rfl⟩
set_option maxRecDepth 100000 in
theorem isNaN_any (n : Nat) (w : World) : Calls Tryz.prog 101 #[.float .f64 n] w fun e w' => e = .returned (.bool (decide (9218868437227405312 < n % 9223372036854775808))) ∧ w' = w := by
  rw [← nan_any]
  go_enter Tryz.func101, Tryz.ntmps101
  go_wp2
  go_ret
  exact ⟨rfl, rfl⟩
end Go.Proofs.YtaaogjhaokaggaaGreatDoor
namespace Go.Proofs.YtaaogjhaokaggaaGreatDoor
open Go.RowKit

theorem fin64_iff (n : Nat) : fin64 n = true ↔ n % 9223372036854775808 < 9218868437227405312 := by
  unfold fin64
  simp only [bne_iff_ne, ne_eq]
  omega

set_option maxRecDepth 100000 in
set_option maxHeartbeats 2000000 in
theorem floatValue_any : FloatValueSaid := by
  intro n w
  have HA := Lib.hid (heap_alloc_new w (.cells #[.int .u64 0, .slice none 0 0, .int .u8 0] 69))
  have hb := fun w => run_bits w n
  by_cases h1 : n % 9223372036854775808 = 9218868437227405312
  · have hi : ∀ w, Calls Tryz.prog 100 #[.float .f64 n, .int .i64 0] w fun e w' => e = .returned (.bool true) ∧ w' = w := fun w => by have := isInf_any n w; rw [decide_eq_true h1] at this; exact this
    have HI := Lib.hid hi; clear hi
    rw [show fin64 n = false from by rw [Bool.eq_false_iff]; intro h; rw [fin64_iff] at h; omega]
    rw [if_neg (by decide)]
    clear h1
    go_enter Tryz.func61, Tryz.ntmps61
    go_wp2_with (go_at_call 100; refine (HI.out _).mono ?_; rintro e w1 ⟨rfl, rfl⟩)
    (try simp only [Exit.inBlock, Exit.then])
    refine bodyPost_ret (results_row_tmp rfl _ _ w.heap.size 69 #[.int .u64 0, .slice none 0 0, .int .u8 0] (0, 0) _ rfl ?_ Tryz.underlying69 rfl rfl) rfl ?_
    · exact heap_alloc_new _ _
    · refine ⟨?_, _, rfl, _, _, _, _, _, rfl⟩
      repeat (refine Fr.setCell ?_ (.inr (by simp)) _)
      exact (Fr.refl [] w).alloc _
  · have hi : ∀ w, Calls Tryz.prog 100 #[.float .f64 n, .int .i64 0] w fun e w' => e = .returned (.bool false) ∧ w' = w := fun w => by have := isInf_any n w; rw [decide_eq_false h1] at this; exact this
    have HI := Lib.hid hi; clear hi
    by_cases h2 : 9218868437227405312 < n % 9223372036854775808
    · have hn : ∀ w, Calls Tryz.prog 101 #[.float .f64 n] w fun e w' => e = .returned (.bool true) ∧ w' = w := fun w => by have := isNaN_any n w; rw [decide_eq_true h2] at this; exact this
      have HN := Lib.hid hn; clear hn
      rw [show fin64 n = false from by rw [Bool.eq_false_iff]; intro h; rw [fin64_iff] at h; omega]
      rw [if_neg (by decide)]
      clear h1 h2
      go_enter Tryz.func61, Tryz.ntmps61
      go_wp2_with (first | (go_at_call 100; refine (HI.out _).mono ?_; rintro e w1 ⟨rfl, rfl⟩) | (go_at_call 101; refine (HN.out _).mono ?_; rintro e w1 ⟨rfl, rfl⟩))
      (try simp only [Exit.inBlock, Exit.then])
      refine bodyPost_ret (results_row_tmp rfl _ _ w.heap.size 69 #[.int .u64 0, .slice none 0 0, .int .u8 0] (0, 0) _ rfl ?_ Tryz.underlying69 rfl rfl) rfl ?_
      · exact heap_alloc_new _ _
      · refine ⟨?_, _, rfl, _, _, _, _, _, rfl⟩
        repeat (refine Fr.setCell ?_ (.inr (by simp)) _)
        exact (Fr.refl [] w).alloc _
    · have hn : ∀ w, Calls Tryz.prog 101 #[.float .f64 n] w fun e w' => e = .returned (.bool false) ∧ w' = w := fun w => by have := isNaN_any n w; rw [decide_eq_false h2] at this; exact this
      have HN := Lib.hid hn; clear hn
      rw [show fin64 n = true from by rw [fin64_iff]; omega]
      rw [if_pos rfl]
      clear h1 h2
      go_enter Tryz.func61, Tryz.ntmps61
      go_wp2_with (first | (go_at_call 100; refine (HI.out _).mono ?_; rintro e w1 ⟨rfl, rfl⟩) | (go_at_call 101; refine (HN.out _).mono ?_; rintro e w1 ⟨rfl, rfl⟩))
      (try simp only [Exit.inBlock, Exit.then])
      refine bodyPost_ret (results_row_tmp rfl _ _ w.heap.size 69 #[.int .u64 n, .slice none 0 0, .int .u8 4] (0, 0) _ rfl ?_ Tryz.underlying69 rfl rfl) rfl ?_
      · exact heap_alloc_new _ _
      · refine ⟨?_, _, rfl, ?_, ?_⟩
        · repeat (refine Fr.setCell ?_ (.inr (by simp)) _)
          exact (Fr.refl [] w).alloc _
        · exact rfl
        · intro g hg; simp [lvBlock, Value.ownBlock] at hg
end Go.Proofs.YtaaogjhaokaggaaGreatDoor
