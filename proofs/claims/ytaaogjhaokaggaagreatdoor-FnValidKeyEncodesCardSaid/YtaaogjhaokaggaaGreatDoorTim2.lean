import Derived.Test.YtaaogjhaokaggaaGreatDoorTim
namespace Go.Proofs.YtaaogjhaokaggaaGreatDoor
open Go.RowKit

theorem addT_any (T d : Int) (w : World) (h0 : -1000000000000000000000000 ≤ T) (h1 : T < 1000000000000000000000000) (hd0 : -9223372036854775808 ≤ d) (hd1 : d ≤ 9223372036854775807) :
    Calls Tryz.prog 121 #[.agg #[.int .u64 (T % 1000000000), .int .i64 (T / 1000000000), .pointer none], .int .i64 d] w fun e w' => e = .returned (.agg #[.int .u64 ((T + d) % 1000000000), .int .i64 ((T + d) / 1000000000), .pointer none]) ∧ Fr [] w w' := by
  refine (add_any (T % 1000000000) (T / 1000000000) d w (by omega) (by omega) (by omega) (by omega) hd0 hd1).mono ?_
  rintro e w' ⟨h, h'⟩
  have e1 : T / 1000000000 * 1000000000 + T % 1000000000 = T := by omega
  rw [e1] at h
  exact ⟨h, h'⟩

/-- The nanoseconds from a time's zero to 1970. -/
def T70 : Int := 62135596800000000000

def zcell : Obj := .cells #[.int .u64 0, .int .i64 0, .pointer none] 153 (0, 0)

set_option maxRecDepth 100000 in
set_option maxHeartbeats 1000000 in
theorem zzUnix_any (n : Int) (w : World) (h0 : -9223372036854775808 ≤ n) (h1 : n ≤ 9223372036854775807) :
    Calls Tryz.prog 120 #[.int .i64 n] w fun e w' => e = .returned (.agg #[.int .u64 ((T70 + n) % 1000000000), .int .i64 ((T70 + n) / 1000000000), .pointer none]) ∧ Fr [] w w' := by
  go_enter Tryz.func120, Tryz.ntmps120
  go_wp2
  go_loopw [4] (fun i wr => ∃ k : Nat, k ≤ 8 ∧ i = .int .i64 k ∧ wr.heap[w.heap.size]? = some (.cells #[.int .u64 0, .int .i64 0, .pointer none] 153 (0, 0)) ∧ wr.heap[w.heap.size + 1]? = some (.cells #[.int .u64 ((k * 7766949600000000000 : Int) % 1000000000), .int .i64 ((k * 7766949600000000000 : Int) / 1000000000), .pointer none] 153 (0, 0)) ∧ Fr [] w wr) (fun i _ => 8 - (intOf i).toNat)
  case atStart => exact ⟨0, by omega, rfl, ((Fr.refl [] _).alloc _).blk (heap_alloc_new _ _) (by simp), heap_alloc2_new _ _ _, ((Fr.refl _ _).alloc _).alloc _⟩
  case round =>
    obtain ⟨k, hk, rfl, hrA, hrB, hf⟩ := hrel
    obtain ⟨T, hT⟩ : ∃ T : Int, T = k * 7766949600000000000 := ⟨_, rfl⟩
    rw [← hT] at hrB
    have hT0 : 0 ≤ T ∧ T ≤ 62135596800000000000 := by omega
    have c0 : wr.cell? ⟨w.heap.size + 1, 0, none⟩ = some (.int .u64 (T % 1000000000)) := cell_of_row wr _ 0 _ 153 _ hrB
    have c1 : wr.cell? ⟨w.heap.size + 1, 1, none⟩ = some (.int .i64 (T / 1000000000)) := cell_of_row wr _ 1 _ 153 _ hrB
    have c2 : wr.cell? ⟨w.heap.size + 1, 2, none⟩ = some (.pointer none) := cell_of_row wr _ 2 _ 153 _ hrB
    have HA := Lib.hid hrA; clear hrA
    have HB := Lib.hid hrB; clear hrB
    have HT := Lib.hid hT; clear hT
    by_cases hlt : k < 8
    · go_wp2_with (go_at_call 121; refine (addT_any T 7766949600000000000 _ (by omega) (by omega) (by decide) (by decide)).mono ?_; rintro e w1 ⟨rfl, hf1⟩; have HB1 := Lib.hid (hf1.blk HB.out (by simp)); have d0 := cell_of_row w1 (w.heap.size + 1) 0 _ 153 _ HB1.out; have d1 := cell_of_row w1 (w.heap.size + 1) 1 _ 153 _ HB1.out; have d2 := cell_of_row w1 (w.heap.size + 1) 2 _ 153 _ HB1.out; have f0 := frozen_of_row w1 (w.heap.size + 1) 0 _ 153 HB1.out; have f1 := frozen_of_row w1 (w.heap.size + 1) 1 _ 153 HB1.out; have f2 := frozen_of_row w1 (w.heap.size + 1) 2 _ 153 HB1.out)
      go_roundw
      case rel =>
        have hT2 : ((k + 1 : Nat) : Int) * 7766949600000000000 = T + 7766949600000000000 := by have := HT.out; omega
        refine ⟨k + 1, by omega, by go_num, ?_, ?_, ?_⟩
        · rw [heap_setCell_other _ _ _ _ (by simp), heap_setCell_other _ _ _ _ (by simp), heap_setCell_other _ _ _ _ (by simp)]
          exact hf1.blk HA.out (by simp)
        · rw [hT2]
          exact heap_setCell_same _ _ 2 _ 153 _ (heap_setCell_same _ _ 1 _ 153 _ (heap_setCell_same _ _ 0 _ 153 _ HB1.out))
        · exact ((((hf.trans hf1)).setCell (.inr (by simp)) _).setCell (.inr (by simp)) _).setCell (.inr (by simp)) _
      case measure => simp [intOf]; omega
    · have : k = 8 := by omega
      subst this
      have hT8 : T = T70 := by have := HT.out; unfold T70; omega
      have HT8 := Lib.hid hT8; clear hT8
      go_wp2_with (go_at_call 121; refine (addT_any T n _ (by omega) (by omega) h0 h1).mono ?_; rintro e w1 ⟨rfl, hf1⟩; have HA1 := Lib.hid (hf1.blk HA.out (by simp)); have d0 := cell_of_row w1 (w.heap.size) 0 _ 153 _ HA1.out; have d1 := cell_of_row w1 (w.heap.size) 1 _ 153 _ HA1.out; have d2 := cell_of_row w1 (w.heap.size) 2 _ 153 _ HA1.out; have f0 := frozen_of_row w1 (w.heap.size) 0 _ 153 HA1.out; have f1 := frozen_of_row w1 (w.heap.size) 1 _ 153 HA1.out; have f2 := frozen_of_row w1 (w.heap.size) 2 _ 153 HA1.out)
      (try simp only [Exit.inBlock, Exit.then])
      refine bodyPost_ret (results_cell_row rfl _ _ w.heap.size 153 #[.int .u64 ((T + n) % 1000000000), .int .i64 ((T + n) / 1000000000), .pointer none] (0, 0) _ rfl ?_ Tryz.underlying153 rfl rfl) rfl ?_
      · exact heap_setCell_same _ _ 2 _ 153 _ (heap_setCell_same _ _ 1 _ 153 _ (heap_setCell_same _ _ 0 _ 153 _ HA1.out))
      · refine ⟨by rw [HT8.out], ?_⟩
        repeat (refine Fr.setCell ?_ (.inr (by simp)) _)
        exact hf.trans hf1

set_option maxRecDepth 100000 in
theorem minTime_any (w : World) :
    Calls Tryz.prog 153 #[] w fun e w' => e = .returned (.agg #[.int .u64 ((T70 + (-9223372036854775808)) % 1000000000), .int .i64 ((T70 + (-9223372036854775808)) / 1000000000), .pointer none]) ∧ Fr [] w w' := by
  obtain ⟨a, ha⟩ : ∃ a : Int, a = (T70 + (-9223372036854775808)) % 1000000000 := ⟨_, rfl⟩
  obtain ⟨b, hb⟩ : ∃ b : Int, b = (T70 + (-9223372036854775808)) / 1000000000 := ⟨_, rfl⟩
  have hz := fun w => zzUnix_any (-9223372036854775808) w (by decide) (by decide)
  rw [← ha, ← hb] at *
  clear ha hb
  have HZ := Lib.hid hz; clear hz
  have HR : Hid ((w.alloc (.cells #[.int .u64 0, .int .i64 0, .pointer none] 153)).heap[w.heap.size]? = some (.cells #[.int .u64 0, .int .i64 0, .pointer none] 153 (0, 0))) := Lib.hid (heap_alloc_new _ _)
  go_enter Tryz.func153, Tryz.ntmps153
  go_wp2_with (go_at_call 120; refine (HZ.out _).mono ?_; rintro e w1 ⟨rfl, hf1⟩; have HA1 := Lib.hid (hf1.blk HR.out (by simp)); have d0 := cell_of_row w1 (w.heap.size) 0 _ 153 _ HA1.out; have d1 := cell_of_row w1 (w.heap.size) 1 _ 153 _ HA1.out; have d2 := cell_of_row w1 (w.heap.size) 2 _ 153 _ HA1.out; have f0 := frozen_of_row w1 (w.heap.size) 0 _ 153 HA1.out; have f1 := frozen_of_row w1 (w.heap.size) 1 _ 153 HA1.out; have f2 := frozen_of_row w1 (w.heap.size) 2 _ 153 HA1.out)
  (try simp only [Exit.inBlock, Exit.then])
  refine bodyPost_ret (results_cell_row rfl _ _ w.heap.size 153 #[.int .u64 a, .int .i64 b, .pointer none] (0, 0) _ rfl ?_ Tryz.underlying153 rfl rfl) rfl ?_
  · exact heap_setCell_same _ _ 2 _ 153 _ (heap_setCell_same _ _ 1 _ 153 _ (heap_setCell_same _ _ 0 _ 153 _ HA1.out))
  · refine ⟨rfl, ?_⟩
    repeat (refine Fr.setCell ?_ (.inr (by simp)) _)
    exact ((Fr.refl _ _).alloc _).trans hf1

set_option maxRecDepth 100000 in
theorem maxTime_any (w : World) :
    Calls Tryz.prog 155 #[] w fun e w' => e = .returned (.agg #[.int .u64 ((T70 + 9223372036854775807) % 1000000000), .int .i64 ((T70 + 9223372036854775807) / 1000000000), .pointer none]) ∧ Fr [] w w' := by
  obtain ⟨a, ha⟩ : ∃ a : Int, a = (T70 + 9223372036854775807) % 1000000000 := ⟨_, rfl⟩
  obtain ⟨b, hb⟩ : ∃ b : Int, b = (T70 + 9223372036854775807) / 1000000000 := ⟨_, rfl⟩
  have hz := fun w => zzUnix_any 9223372036854775807 w (by decide) (by decide)
  rw [← ha, ← hb] at *
  clear ha hb
  have HZ := Lib.hid hz; clear hz
  have HR : Hid ((w.alloc (.cells #[.int .u64 0, .int .i64 0, .pointer none] 153)).heap[w.heap.size]? = some (.cells #[.int .u64 0, .int .i64 0, .pointer none] 153 (0, 0))) := Lib.hid (heap_alloc_new _ _)
  go_enter Tryz.func155, Tryz.ntmps155
  go_wp2_with (go_at_call 120; refine (HZ.out _).mono ?_; rintro e w1 ⟨rfl, hf1⟩; have HA1 := Lib.hid (hf1.blk HR.out (by simp)); have d0 := cell_of_row w1 (w.heap.size) 0 _ 153 _ HA1.out; have d1 := cell_of_row w1 (w.heap.size) 1 _ 153 _ HA1.out; have d2 := cell_of_row w1 (w.heap.size) 2 _ 153 _ HA1.out; have f0 := frozen_of_row w1 (w.heap.size) 0 _ 153 HA1.out; have f1 := frozen_of_row w1 (w.heap.size) 1 _ 153 HA1.out; have f2 := frozen_of_row w1 (w.heap.size) 2 _ 153 HA1.out)
  (try simp only [Exit.inBlock, Exit.then])
  refine bodyPost_ret (results_cell_row rfl _ _ w.heap.size 153 #[.int .u64 a, .int .i64 b, .pointer none] (0, 0) _ rfl ?_ Tryz.underlying153 rfl rfl) rfl ?_
  · exact heap_setCell_same _ _ 2 _ 153 _ (heap_setCell_same _ _ 1 _ 153 _ (heap_setCell_same _ _ 0 _ 153 _ HA1.out))
  · refine ⟨rfl, ?_⟩
    repeat (refine Fr.setCell ?_ (.inr (by simp)) _)
    exact ((Fr.refl _ _).alloc _).trans hf1

set_option maxRecDepth 100000 in
theorem isZero_any (T : Int) (w : World) :
    Calls Tryz.prog 151 #[.agg #[.int .u64 (T % 1000000000), .int .i64 (T / 1000000000), .pointer none]] w fun e w' => e = .returned (.bool (T == 0)) ∧ Fr [] w w' := by
  obtain ⟨a, ha⟩ : ∃ a : Int, a = T % 1000000000 := ⟨_, rfl⟩
  obtain ⟨b, hb⟩ : ∃ b : Int, b = T / 1000000000 := ⟨_, rfl⟩
  have hab : (T == 0) = ((a == 0) && (b == 0)) := by
    rw [Bool.eq_iff_iff]; simp; omega
  rw [hab, ← ha, ← hb]
  clear ha hb hab
  by_cases h : a = 0
  · subst h
    go_enter Tryz.func151, Tryz.ntmps151
    go_wp2
    go_ret
    exact ⟨by simp, (Fr.refl _ _).alloc _⟩
  · have hh : (a == 0) = false := by simpa using h
    go_enter Tryz.func151, Tryz.ntmps151
    go_wp2
    go_ret
    exact ⟨by simp [hh], (Fr.refl _ _).alloc _⟩

set_option maxRecDepth 100000 in
theorem unixNano_any (T : Int) (w : World) (h0 : -9223372036854775808 ≤ T - T70) (h1 : T - T70 ≤ 9223372036854775807) :
    Calls Tryz.prog 156 #[.agg #[.int .u64 (T % 1000000000), .int .i64 (T / 1000000000), .pointer none]] w fun e w' => e = .returned (.int .i64 (T - T70)) ∧ Fr [] w w' := by
  obtain ⟨a, ha⟩ : ∃ a : Int, a = T % 1000000000 := ⟨_, rfl⟩
  obtain ⟨b, hb⟩ : ∃ b : Int, b = T / 1000000000 := ⟨_, rfl⟩
  have ha0 : 0 ≤ a ∧ a < 1000000000 := by omega
  have hT : Hid (T = b * 1000000000 + a) := Lib.hid (by omega)
  have H0 := Lib.hid h0; clear h0
  have H1 := Lib.hid h1; clear h1
  rw [← ha, ← hb]
  clear ha hb
  go_enter Tryz.func156, Tryz.ntmps156
  go_wp2_with (first
    | (go_at_call 182; refine (unixSec_any _ a b _ ha0.1 ha0.2 (by simp) (by simp)).mono ?_; rintro e w1 ⟨rfl, rfl⟩)
    | (go_at_call 148; refine (nsec_any _ a _ ha0.1 ha0.2 (by simp)).mono ?_; rintro e w1 ⟨rfl, rfl⟩))
  go_ret
  refine ⟨congrArg (fun n => Ending.returned (.int .i64 n)) ?_, (Fr.refl _ _).alloc _⟩
  have := hT.out
  have := H0.out
  have := H1.out
  unfold T70 at *
  first | omega | (unfold wrap64; omega)
end Go.Proofs.YtaaogjhaokaggaaGreatDoor
