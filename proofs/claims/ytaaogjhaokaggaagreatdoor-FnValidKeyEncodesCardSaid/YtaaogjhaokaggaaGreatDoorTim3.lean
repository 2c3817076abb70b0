import Derived.Test.YtaaogjhaokaggaaGreatDoorTim2
namespace Go.Proofs.YtaaogjhaokaggaaGreatDoor
open Go.RowKit

set_option maxRecDepth 100000 in
theorem before_any (T U : Int) (w : World) :
    Calls Tryz.prog 152 #[.agg #[.int .u64 (T % 1000000000), .int .i64 (T / 1000000000), .pointer none], .agg #[.int .u64 (U % 1000000000), .int .i64 (U / 1000000000), .pointer none]] w fun e w' => e = .returned (.bool (decide (T < U))) ∧ Fr [] w w' := by
  obtain ⟨a, ha⟩ : ∃ a : Int, a = T % 1000000000 := ⟨_, rfl⟩
  obtain ⟨b, hb⟩ : ∃ b : Int, b = T / 1000000000 := ⟨_, rfl⟩
  obtain ⟨c, hc⟩ : ∃ a : Int, a = U % 1000000000 := ⟨_, rfl⟩
  obtain ⟨d, hd⟩ : ∃ b : Int, b = U / 1000000000 := ⟨_, rfl⟩
  have ha0 : 0 ≤ a ∧ a < 1000000000 := by omega
  have hc0 : 0 ≤ c ∧ c < 1000000000 := by omega
  have hbit : bits .and .u64 (bits .and .u64 a c) 9223372036854775808 = 0 := by
    obtain ⟨x, rfl⟩ := Int.eq_ofNat_of_zero_le ha0.1
    obtain ⟨y, rfl⟩ := Int.eq_ofNat_of_zero_le hc0.1
    rw [(bits_nat .u64 64 (by decide) wraps_u64 x y (by omega) (by omega)).1]
    exact b63 _ (Int.natCast_nonneg _) (by have := @Nat.and_le_left x y; omega)
  have hT : Hid ((T < U) ↔ (b < d ∨ b = d ∧ a < c)) := Lib.hid (by omega)
  rw [← ha, ← hb, ← hc, ← hd]
  clear ha hb hc hd
  have P0 := Lib.hid (show ((w.alloc (.cells #[.int .u64 a, .int .i64 b, .pointer none] 153)).alloc (.cells #[.int .u64 c, .int .i64 d, .pointer none] 153)).cell? ⟨w.heap.size + 1, 0, none⟩ = some (.int .u64 c) from cell_of_row _ _ 0 _ 153 _ (heap_alloc2_new w _ _))
  have P1 := Lib.hid (show ((w.alloc (.cells #[.int .u64 a, .int .i64 b, .pointer none] 153)).alloc (.cells #[.int .u64 c, .int .i64 d, .pointer none] 153)).cell? ⟨w.heap.size + 1, 1, none⟩ = some (.int .i64 d) from cell_of_row _ _ 1 _ 153 _ (heap_alloc2_new w _ _))
  rcases Int.lt_trichotomy b d with h | h | h
  · have hx1 : decide (b < d) = true := decide_eq_true h
    have hx2 : decide (b > d) = false := decide_eq_false (by omega)
    have hx3 : (b == d) = false := by rw [beq_eq_false_iff_ne]; omega
    have H := Lib.hid h; clear h
    go_enter Tryz.func152, Tryz.ntmps152
    go_wp2_with (first
      | (go_at_call_of 181 (Value.pointer (some ⟨w.heap.size, 0, none⟩)); refine (sec_any _ a b _ ha0.1 ha0.2 (by simp) (by simp)).mono ?_; rintro e w1 ⟨rfl, rfl⟩)
      | (go_at_call 181; refine (sec_any _ c d _ hc0.1 hc0.2 P0.out P1.out).mono ?_; rintro e w1 ⟨rfl, rfl⟩)
      | (go_at_call_of 148 (Value.pointer (some ⟨w.heap.size, 0, none⟩)); refine (nsec_any _ a _ ha0.1 ha0.2 (by simp)).mono ?_; rintro e w1 ⟨rfl, rfl⟩)
      | (go_at_call 148; refine (nsec_any _ c _ hc0.1 hc0.2 P0.out).mono ?_; rintro e w1 ⟨rfl, rfl⟩))
    go_ret
    refine ⟨congrArg (fun n => Ending.returned (.bool n)) ?_, ((Fr.refl _ _).alloc _).alloc _⟩
    have := H.out
    have h2 := hT.out
    (try simp only [Int.lt_irrefl, gt_iff_lt, false_or, true_and] at h2)
    rw [Bool.eq_iff_iff]
    simp
    omega
  · subst h
    have hx1 : decide (b < b) = false := decide_eq_false (by omega)
    have H : Hid (b = b) := Lib.hid rfl
    go_enter Tryz.func152, Tryz.ntmps152
    go_wp2_with (first
      | (go_at_call_of 181 (Value.pointer (some ⟨w.heap.size, 0, none⟩)); refine (sec_any _ a b _ ha0.1 ha0.2 (by simp) (by simp)).mono ?_; rintro e w1 ⟨rfl, rfl⟩)
      | (go_at_call 181; refine (sec_any _ c b _ hc0.1 hc0.2 P0.out P1.out).mono ?_; rintro e w1 ⟨rfl, rfl⟩)
      | (go_at_call_of 148 (Value.pointer (some ⟨w.heap.size, 0, none⟩)); refine (nsec_any _ a _ ha0.1 ha0.2 (by simp)).mono ?_; rintro e w1 ⟨rfl, rfl⟩)
      | (go_at_call 148; refine (nsec_any _ c _ hc0.1 hc0.2 P0.out).mono ?_; rintro e w1 ⟨rfl, rfl⟩))
    go_ret
    refine ⟨congrArg (fun n => Ending.returned (.bool n)) ?_, ((Fr.refl _ _).alloc _).alloc _⟩
    have := H.out
    have h2 := hT.out
    (try simp only [Int.lt_irrefl, false_or, true_and] at h2)
    rw [Bool.eq_iff_iff]
    simp
    omega
  · have hx1 : decide (b < d) = false := decide_eq_false (by omega)
    have hx2 : decide (b > d) = true := decide_eq_true h
    have hx3 : (b == d) = false := by rw [beq_eq_false_iff_ne]; omega
    have H := Lib.hid h; clear h
    go_enter Tryz.func152, Tryz.ntmps152
    go_wp2_with (first
      | (go_at_call_of 181 (Value.pointer (some ⟨w.heap.size, 0, none⟩)); refine (sec_any _ a b _ ha0.1 ha0.2 (by simp) (by simp)).mono ?_; rintro e w1 ⟨rfl, rfl⟩)
      | (go_at_call 181; refine (sec_any _ c d _ hc0.1 hc0.2 P0.out P1.out).mono ?_; rintro e w1 ⟨rfl, rfl⟩)
      | (go_at_call_of 148 (Value.pointer (some ⟨w.heap.size, 0, none⟩)); refine (nsec_any _ a _ ha0.1 ha0.2 (by simp)).mono ?_; rintro e w1 ⟨rfl, rfl⟩)
      | (go_at_call 148; refine (nsec_any _ c _ hc0.1 hc0.2 P0.out).mono ?_; rintro e w1 ⟨rfl, rfl⟩))
    go_ret
    refine ⟨congrArg (fun n => Ending.returned (.bool n)) ?_, ((Fr.refl _ _).alloc _).alloc _⟩
    have := H.out
    have h2 := hT.out
    (try simp only [Int.lt_irrefl, gt_iff_lt, false_or, true_and] at h2)
    rw [Bool.eq_iff_iff]
    simp
    omega

set_option maxRecDepth 100000 in
theorem after_any (T U : Int) (w : World) :
    Calls Tryz.prog 154 #[.agg #[.int .u64 (T % 1000000000), .int .i64 (T / 1000000000), .pointer none], .agg #[.int .u64 (U % 1000000000), .int .i64 (U / 1000000000), .pointer none]] w fun e w' => e = .returned (.bool (decide (T > U))) ∧ Fr [] w w' := by
  obtain ⟨a, ha⟩ : ∃ a : Int, a = T % 1000000000 := ⟨_, rfl⟩
  obtain ⟨b, hb⟩ : ∃ b : Int, b = T / 1000000000 := ⟨_, rfl⟩
  obtain ⟨c, hc⟩ : ∃ a : Int, a = U % 1000000000 := ⟨_, rfl⟩
  obtain ⟨d, hd⟩ : ∃ b : Int, b = U / 1000000000 := ⟨_, rfl⟩
  have ha0 : 0 ≤ a ∧ a < 1000000000 := by omega
  have hc0 : 0 ≤ c ∧ c < 1000000000 := by omega
  have hbit : bits .and .u64 (bits .and .u64 a c) 9223372036854775808 = 0 := by
    obtain ⟨x, rfl⟩ := Int.eq_ofNat_of_zero_le ha0.1
    obtain ⟨y, rfl⟩ := Int.eq_ofNat_of_zero_le hc0.1
    rw [(bits_nat .u64 64 (by decide) wraps_u64 x y (by omega) (by omega)).1]
    exact b63 _ (Int.natCast_nonneg _) (by have := @Nat.and_le_left x y; omega)
  have hT : Hid ((T > U) ↔ (b > d ∨ b = d ∧ a > c)) := Lib.hid (by omega)
  rw [← ha, ← hb, ← hc, ← hd]
  clear ha hb hc hd
  have P0 := Lib.hid (show ((w.alloc (.cells #[.int .u64 a, .int .i64 b, .pointer none] 153)).alloc (.cells #[.int .u64 c, .int .i64 d, .pointer none] 153)).cell? ⟨w.heap.size + 1, 0, none⟩ = some (.int .u64 c) from cell_of_row _ _ 0 _ 153 _ (heap_alloc2_new w _ _))
  have P1 := Lib.hid (show ((w.alloc (.cells #[.int .u64 a, .int .i64 b, .pointer none] 153)).alloc (.cells #[.int .u64 c, .int .i64 d, .pointer none] 153)).cell? ⟨w.heap.size + 1, 1, none⟩ = some (.int .i64 d) from cell_of_row _ _ 1 _ 153 _ (heap_alloc2_new w _ _))
  rcases Int.lt_trichotomy b d with h | h | h
  · have hx1 : decide (b < d) = true := decide_eq_true h
    have hx2 : decide (b > d) = false := decide_eq_false (by omega)
    have hx3 : (b == d) = false := by rw [beq_eq_false_iff_ne]; omega
    have H := Lib.hid h; clear h
    go_enter Tryz.func154, Tryz.ntmps154
    go_wp2_with (first
      | (go_at_call_of 181 (Value.pointer (some ⟨w.heap.size, 0, none⟩)); refine (sec_any _ a b _ ha0.1 ha0.2 (by simp) (by simp)).mono ?_; rintro e w1 ⟨rfl, rfl⟩)
      | (go_at_call 181; refine (sec_any _ c d _ hc0.1 hc0.2 P0.out P1.out).mono ?_; rintro e w1 ⟨rfl, rfl⟩)
      | (go_at_call_of 148 (Value.pointer (some ⟨w.heap.size, 0, none⟩)); refine (nsec_any _ a _ ha0.1 ha0.2 (by simp)).mono ?_; rintro e w1 ⟨rfl, rfl⟩)
      | (go_at_call 148; refine (nsec_any _ c _ hc0.1 hc0.2 P0.out).mono ?_; rintro e w1 ⟨rfl, rfl⟩))
    go_ret
    refine ⟨congrArg (fun n => Ending.returned (.bool n)) ?_, ((Fr.refl _ _).alloc _).alloc _⟩
    have := H.out
    have h2 := hT.out
    (try simp only [gt_iff_lt] at h2)
    rw [Bool.eq_iff_iff]
    simp
    omega
  · subst h
    have hx1 : decide (b < b) = false := decide_eq_false (by omega)
    have H : Hid (b = b) := Lib.hid rfl
    go_enter Tryz.func154, Tryz.ntmps154
    go_wp2_with (first
      | (go_at_call_of 181 (Value.pointer (some ⟨w.heap.size, 0, none⟩)); refine (sec_any _ a b _ ha0.1 ha0.2 (by simp) (by simp)).mono ?_; rintro e w1 ⟨rfl, rfl⟩)
      | (go_at_call 181; refine (sec_any _ c b _ hc0.1 hc0.2 P0.out P1.out).mono ?_; rintro e w1 ⟨rfl, rfl⟩)
      | (go_at_call_of 148 (Value.pointer (some ⟨w.heap.size, 0, none⟩)); refine (nsec_any _ a _ ha0.1 ha0.2 (by simp)).mono ?_; rintro e w1 ⟨rfl, rfl⟩)
      | (go_at_call 148; refine (nsec_any _ c _ hc0.1 hc0.2 P0.out).mono ?_; rintro e w1 ⟨rfl, rfl⟩))
    go_ret
    refine ⟨congrArg (fun n => Ending.returned (.bool n)) ?_, ((Fr.refl _ _).alloc _).alloc _⟩
    have := H.out
    have h2 := hT.out
    (try simp only [Int.lt_irrefl, gt_iff_lt, false_or, true_and] at h2)
    rw [Bool.eq_iff_iff]
    simp
    omega
  · have hx1 : decide (b < d) = false := decide_eq_false (by omega)
    have hx2 : decide (b > d) = true := decide_eq_true h
    have hx3 : (b == d) = false := by rw [beq_eq_false_iff_ne]; omega
    have H := Lib.hid h; clear h
    go_enter Tryz.func154, Tryz.ntmps154
    go_wp2_with (first
      | (go_at_call_of 181 (Value.pointer (some ⟨w.heap.size, 0, none⟩)); refine (sec_any _ a b _ ha0.1 ha0.2 (by simp) (by simp)).mono ?_; rintro e w1 ⟨rfl, rfl⟩)
      | (go_at_call 181; refine (sec_any _ c d _ hc0.1 hc0.2 P0.out P1.out).mono ?_; rintro e w1 ⟨rfl, rfl⟩)
      | (go_at_call_of 148 (Value.pointer (some ⟨w.heap.size, 0, none⟩)); refine (nsec_any _ a _ ha0.1 ha0.2 (by simp)).mono ?_; rintro e w1 ⟨rfl, rfl⟩)
      | (go_at_call 148; refine (nsec_any _ c _ hc0.1 hc0.2 P0.out).mono ?_; rintro e w1 ⟨rfl, rfl⟩))
    go_ret
    refine ⟨congrArg (fun n => Ending.returned (.bool n)) ?_, ((Fr.refl _ _).alloc _).alloc _⟩
    have := H.out
    have h2 := hT.out
    (try simp only [gt_iff_lt] at h2)
    rw [Bool.eq_iff_iff]
    simp
    omega
end Go.Proofs.YtaaogjhaokaggaaGreatDoor
