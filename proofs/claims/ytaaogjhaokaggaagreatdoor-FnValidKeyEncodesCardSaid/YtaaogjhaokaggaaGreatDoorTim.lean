import Derived.Test.YtaaogjhaokaggaaGreatDoorEncF
import Derived.Laws.BitsLemmas
import Derived.Lib.VarintBits
namespace Go.Proofs.YtaaogjhaokaggaaGreatDoor
open Go.RowKit

theorem b63 (W : Int) (h0 : 0 ≤ W) (h1 : W < 1073741824) : bits .and .u64 W 9223372036854775808 = 0 := by
  obtain ⟨a, rfl⟩ := Int.eq_ofNat_of_zero_le h0
  have ha : a < 2 ^ 64 := by omega
  have h := (bits_nat .u64 64 (by decide) wraps_u64 a (2 ^ 63) ha (by decide)).1
  have e : a &&& 2 ^ 63 = 0 := by
    apply Nat.eq_of_testBit_eq
    intro i
    rw [Nat.testBit_and, Nat.zero_testBit, Nat.testBit_two_pow]
    by_cases hi : 63 = i
    · subst hi; rw [Nat.testBit_lt_two_pow (by omega)]; rfl
    · simp [hi]
  rw [e] at h
  exact h
theorem b30 (W : Int) (h0 : 0 ≤ W) (h1 : W < 1073741824) : bits .and .u64 W 1073741823 = W := by
  have h := bits_mask .u64 64 (by decide) wraps_u64 30 (by decide) W h0 (by omega)
  have e : W % 2 ^ 30 = W := Int.emod_eq_of_lt h0 (by omega)
  rw [e] at h
  exact h
theorem bn30 (W : Int) (h0 : 0 ≤ W) (h1 : W < 1073741824) : bits .andNot .u64 W 1073741823 = 0 := by
  obtain ⟨a, rfl⟩ := Int.eq_ofNat_of_zero_le h0
  have e : BitVec.ofInt 64 (a : Int) = BitVec.ofNat 64 a := by simp
  have e2 : (BitVec.ofNat 64 a &&& ~~~ (BitVec.ofInt 64 1073741823)) = 0#64 := by
    apply BitVec.eq_of_getLsbD_eq
    intro i hi
    rw [BitVec.getLsbD_and, BitVec.getLsbD_not, show BitVec.ofInt 64 1073741823 = BitVec.ofNat 64 (2 ^ 30 - 1) from rfl, BitVec.getLsbD_ofNat, BitVec.getLsbD_ofNat, Nat.testBit_two_pow_sub_one]
    by_cases h30 : i < 30
    · simp [h30]
    · have : a.testBit i = false := Nat.testBit_lt_two_pow (Nat.lt_of_lt_of_le (show a < 2 ^ 30 by omega) (Nat.pow_le_pow_right (by decide) (by omega)))
      simp [this]
  show (IntKind.u64).wrap ((BitVec.ofInt 64 (a : Int) &&& ~~~ (BitVec.ofInt 64 1073741823)).toNat : Int) = 0
  rw [e, e2]
  rfl
theorem bo30 (W : Int) (h0 : 0 ≤ W) (h1 : W < 1073741824) : bits .or .u64 0 W = W := by
  have := u64_orv0 0 W (by omega) (by omega) h0 (by omega) (by omega)
  simpa using this

/-- A time without a monotone clock, T nanoseconds behind its zero. -/
def tv (T : Int) : Value := .agg #[.int .u64 (T % 1000000000), .int .i64 (T / 1000000000), .pointer none]

set_option maxRecDepth 100000 in
theorem nsec_any (p : Nat) (W : Int) (w : World) (h0 : 0 ≤ W) (h1 : W < 1000000000) (hc : w.cell? ⟨p, 0, none⟩ = some (.int .u64 W)) :
    Calls Tryz.prog 148 #[.pointer (some ⟨p, 0, none⟩)] w fun e w' => e = .returned (.int .i32 W) ∧ w' = w := by
  have hb := b30 W h0 (by omega)
  have hw : IntKind.i32.wrap W = W := by rw [IntKind.wrap_i32]; omega
  go_enter Tryz.func148, Tryz.ntmps148
  go_wp2
  go_ret
  exact ⟨by simp, rfl⟩

set_option maxRecDepth 100000 in
theorem sec_any (p : Nat) (W S : Int) (w : World) (h0 : 0 ≤ W) (h1 : W < 1000000000) (hc : w.cell? ⟨p, 0, none⟩ = some (.int .u64 W)) (hs : w.cell? ⟨p, 1, none⟩ = some (.int .i64 S)) :
    Calls Tryz.prog 181 #[.pointer (some ⟨p, 0, none⟩)] w fun e w' => e = .returned (.int .i64 S) ∧ w' = w := by
  have hb := b63 W h0 (by omega)
  go_enter Tryz.func181, Tryz.ntmps181
  go_wp2
  go_ret
  exact ⟨rfl, rfl⟩

set_option maxRecDepth 100000 in
theorem unixSec_any (p : Nat) (W S : Int) (w : World) (h0 : 0 ≤ W) (h1 : W < 1000000000) (hc : w.cell? ⟨p, 0, none⟩ = some (.int .u64 W)) (hs : w.cell? ⟨p, 1, none⟩ = some (.int .i64 S)) :
    Calls Tryz.prog 182 #[.pointer (some ⟨p, 0, none⟩)] w fun e w' => e = .returned (.int .i64 (wrap64 (S + (-62135596800)))) ∧ w' = w := by
  have h := sec_any p W S w h0 h1 hc hs
  go_enter Tryz.func182, Tryz.ntmps182
  go_wp2_with (go_at_call 181; refine h.mono ?_; rintro e w1 ⟨rfl, rfl⟩)
  go_ret
  exact ⟨rfl, rfl⟩

set_option maxRecDepth 100000 in
theorem strip_any (p : Nat) (W : Int) (w : World) (h0 : 0 ≤ W) (h1 : W < 1000000000) (hc : w.cell? ⟨p, 0, none⟩ = some (.int .u64 W)) (_hf : w.frozen? ⟨p, 0, none⟩ = false) :
    Calls Tryz.prog 150 #[.pointer (some ⟨p, 0, none⟩)] w fun e w' => e = .returned (.tuple #[]) ∧ w' = w := by
  have hb := b63 W h0 (by omega)
  have hb' := b30 W h0 (by omega)
  go_enter Tryz.func150, Tryz.ntmps150
  go_wp2
  refine bodyPost_end (results_none rfl _ _ _) rfl ?_
  exact ⟨rfl, rfl⟩

set_option maxRecDepth 100000 in
theorem addSec_any (p : Nat) (W S d : Int) (w : World) (h0 : 0 ≤ W) (h1 : W < 1000000000) (hs0 : -4611686018427387904 ≤ S) (hs1 : S < 4611686018427387904) (hd0 : -4611686018427387904 ≤ d) (hd1 : d < 4611686018427387904) (hc : w.cell? ⟨p, 0, none⟩ = some (.int .u64 W)) (hs : w.cell? ⟨p, 1, none⟩ = some (.int .i64 S)) (hf : w.frozen? ⟨p, 0, none⟩ = false) (hf1 : w.frozen? ⟨p, 1, none⟩ = false) :
    Calls Tryz.prog 149 #[.pointer (some ⟨p, 0, none⟩), .int .i64 d] w fun e w' => e = .returned (.tuple #[]) ∧ w' = w.setCell ⟨p, 1, none⟩ (.int .i64 (S + d)) := by
  have hb := b63 W h0 (by omega)
  have hst := strip_any p W w h0 h1 hc hf
  have hw : wrap64 (S + d) = S + d := (by unfold wrap64; omega)
  have hcmp : ((decide (S + d > S)) == decide (d > 0)) = true := by simp; omega
  go_enter Tryz.func149, Tryz.ntmps149
  go_wp2_with (go_at_call 150; refine hst.mono ?_; rintro e w1 ⟨rfl, rfl⟩)
  go_end0
  exact ⟨rfl, rfl⟩

set_option maxRecDepth 100000 in
theorem add_any (W S d : Int) (w : World) (h0 : 0 ≤ W) (h1 : W < 1000000000) (hs0 : -1000000000000000000 ≤ S) (hs1 : S < 1000000000000000000) (hd0 : -9223372036854775808 ≤ d) (hd1 : d ≤ 9223372036854775807) :
    Calls Tryz.prog 121 #[.agg #[.int .u64 W, .int .i64 S, .pointer none], .int .i64 d] w fun e w' => e = .returned (tv (S * 1000000000 + W + d)) ∧ Fr [] w w' := by
  have hqr : d.tdiv 1000000000 * 1000000000 + d.tmod 1000000000 = d := by have := Int.mul_tdiv_add_tmod d 1000000000; omega
  have hr : -1000000000 < d.tmod 1000000000 ∧ d.tmod 1000000000 < 1000000000 := by
    have := Int.tmod_lt_of_pos d (show (0 : Int) < 1000000000 by decide)
    have := Int.lt_tmod_of_pos d (show (0 : Int) < 1000000000 by decide)
    omega
  obtain ⟨q, hq⟩ : ∃ q, q = d.tdiv 1000000000 := ⟨_, rfl⟩
  obtain ⟨r, hrr⟩ : ∃ r, r = d.tmod 1000000000 := ⟨_, rfl⟩
  rw [← hq, ← hrr] at hqr
  rw [← hrr] at hr
  have hw1 : wrap32 r = r := by unfold wrap32; omega
  have hw2 : wrap32 (W + r) = W + r := by unfold wrap32; omega
  have HQ := Lib.hid hq; clear hq
  have HRR := Lib.hid hrr; clear hrr
  have HQR := Lib.hid hqr; clear hqr
  have HW1 := Lib.hid hw1; clear hw1
  have HW2 := Lib.hid hw2; clear hw2
  obtain ⟨Q, N, hN⟩ : ∃ Q N : Int, Q = (if 1000000000 ≤ W + r then q + 1 else if W + r < 0 then q - 1 else q) ∧ N = (if 1000000000 ≤ W + r then W + r - 1000000000 else if W + r < 0 then W + r + 1000000000 else W + r) := ⟨_, _, rfl, rfl⟩
  have HN := Lib.hid hN; clear hN
  have HF : Hid (0 ≤ N ∧ N < 1000000000 ∧ Q * 1000000000 + N = W + d) := Lib.hid (by
    obtain ⟨e1, e2⟩ := HN.out
    have := HQR.out
    rw [e1, e2]
    split
    · omega
    · split <;> omega)
  have HB := Lib.hid (bn30 W h0 (by omega))
  go_enter Tryz.func121, Tryz.ntmps121
  go_upto_if 16 with (go_at_call 148; refine (nsec_any _ W _ h0 h1 (by simp)).mono ?_; rintro e w1 ⟨rfl, rfl⟩)
  rw [← HQ.out, ← HRR.out, HW1.out, HW2.out]
  obtain ⟨w2, hw2⟩ : ∃ w2, w2 = (w.alloc (.cells #[.int .u64 W, .int .i64 S, .pointer none] 153)).alloc (.cells #[.int .u64 0, .int .i64 0, .pointer none] 153) := ⟨_, rfl⟩
  rw [← hw2]
  have HW := Lib.hid hw2; clear hw2
  go_cut [5, 6] (fun a b wx => a = .int .i64 Q ∧ b = .int .i32 N ∧ wx = w2)
  case first =>
    by_cases k1 : 1000000000 ≤ W + r
    · have KQ : Hid (Q = q + 1) := Lib.hid (by rw [HN.out.1, if_pos k1])
      have KN : Hid (N = W + r - 1000000000) := Lib.hid (by rw [HN.out.2, if_pos k1])
      have kd : decide (1000000000 ≤ W + r) = true := decide_eq_true k1
      go_wp2_with fail
      go_meet
      exact ⟨congrArg (Value.int .i64) (by have := KQ.out; have := HQR.out; first | omega | (unfold wrap64; omega)), congrArg (Value.int .i32) (by have := KN.out; first | omega | (unfold wrap32; omega)), rfl⟩
    · have kd : decide (1000000000 ≤ W + r) = false := decide_eq_false k1
      by_cases k2 : W + r < 0
      · have KQ : Hid (Q = q - 1) := Lib.hid (by rw [HN.out.1, if_neg k1, if_pos k2])
        have KN : Hid (N = W + r + 1000000000) := Lib.hid (by rw [HN.out.2, if_neg k1, if_pos k2])
        have kd2 : decide (W + r < 0) = true := decide_eq_true k2
        go_wp2_with fail
        go_meet
        exact ⟨congrArg (Value.int .i64) (by have := KQ.out; have := HQR.out; first | omega | (unfold wrap64; omega)), congrArg (Value.int .i32) (by have := KN.out; first | omega | (unfold wrap32; omega)), rfl⟩
      · have KQ : Hid (Q = q) := Lib.hid (by rw [HN.out.1, if_neg k1, if_neg k2])
        have KN : Hid (N = W + r) := Lib.hid (by rw [HN.out.2, if_neg k1, if_neg k2])
        have kd2 : decide (W + r < 0) = false := decide_eq_false k2
        go_wp2_with fail
        go_meet
        exact ⟨congrArg (Value.int .i64) (by have := KQ.out; have := HQR.out; first | omega | (unfold wrap64; omega)), congrArg (Value.int .i32) (by have := KN.out; first | omega | (unfold wrap32; omega)), rfl⟩
  obtain ⟨rfl, rfl, hwc⟩ := hcut
  have hwc' := hwc.symm
  subst hwc'
  have hF := HF.out
  have hn0 := hF.1
  have hn1 := hF.2.1
  have hQ0 : -10000000000 < Q ∧ Q < 10000000000 := by have := hF.2.2; omega
  clear hF
  have p0 : w2.cell? ⟨w.heap.size, 0, none⟩ = some (.int .u64 W) := by rw [HW.out]; simp
  have p1 : w2.cell? ⟨w.heap.size, 1, none⟩ = some (.int .i64 S) := by rw [HW.out]; simp
  have p2 : w2.cell? ⟨w.heap.size, 2, none⟩ = some (.pointer none) := by rw [HW.out]; simp
  have q0 : w2.frozen? ⟨w.heap.size, 0, none⟩ = false := by rw [HW.out]; simp
  have q1 : w2.frozen? ⟨w.heap.size, 1, none⟩ = false := by rw [HW.out]; simp
  have hwN : IntKind.u64.wrap N = N := by rw [IntKind.wrap_u64]; omega
  have HON := Lib.hid (bo30 N hn0 (by omega))
  have HBB := Lib.hid (b63 N hn0 (by omega))
  go_upto_region 10 with fail
  rw [HB.out, HON.out]
  obtain ⟨w3, hw3⟩ : ∃ x, x = w2.setCell ⟨w.heap.size, 0, none⟩ (.int .u64 N) := ⟨_, rfl⟩
  rw [← hw3]
  have hrow3 : w3.heap[w.heap.size]? = some (.cells #[.int .u64 N, .int .i64 S, .pointer none] 153 (0, 0)) := by
    rw [hw3]
    exact heap_setCell_same w2 w.heap.size 0 #[.int .u64 W, .int .i64 S, .pointer none] 153 _ (by
      rw [HW.out]
      show ((w.heap.push _).push _)[w.heap.size]? = _
      rw [Array.getElem?_push_lt (by simp)]
      simp)
  have hrow4 : w3.heap[w.heap.size + 1]? = some (.cells #[.int .u64 0, .int .i64 0, .pointer none] 153 (0, 0)) := by
    rw [hw3]
    exact ((Fr.refl [w.heap.size] w2).setCell (p := ⟨w.heap.size, 0, none⟩) (.inl (by simp)) (.int .u64 N)).blk (by
      rw [HW.out]
      show ((w.heap.push _).push _)[w.heap.size + 1]? = _
      have := @Array.getElem?_push_size _ (w.heap.push (.cells #[.int .u64 W, .int .i64 S, .pointer none] 153)) (.cells #[.int .u64 0, .int .i64 0, .pointer none] 153)
      simpa using this) (by simp)
  have hfr3 : Fr [] w w3 := by
    rw [hw3, HW.out]
    exact (((Fr.refl _ _).alloc _).alloc _).setCell (.inr (by simp)) _
  clear p0 p1 p2 q0 q1 HON HB
  have HW3 := Lib.hid hw3; clear hw3
  go_upto_if 39 with (go_at_call 149; refine (addSec_any _ N S Q _ hn0 hn1 (by omega) (by omega) (by omega) (by omega) (cell_of_row w3 _ 0 _ 153 _ hrow3) (cell_of_row w3 _ 1 _ 153 _ hrow3) (frozen_of_row w3 _ 0 _ 153 hrow3) (frozen_of_row w3 _ 1 _ 153 hrow3)).mono ?_; rintro e w4 ⟨rfl, hw4⟩; have hrow5 : w4.heap[w.heap.size]? = some (.cells #[.int .u64 N, .int .i64 (S + Q), .pointer none] 153 (0, 0)) := (by rw [hw4]; exact heap_setCell_same w3 w.heap.size 1 _ 153 _ hrow3); have hrow6 : w4.heap[w.heap.size + 1]? = some (.cells #[.int .u64 0, .int .i64 0, .pointer none] 153 (0, 0)) := (by rw [hw4]; exact ((Fr.refl [w.heap.size] w3).setCell (p := ⟨w.heap.size, 1, none⟩) (.inl (by simp)) _).blk hrow4 (by simp)); have hfr4 : Fr [] w w4 := (by rw [hw4]; exact hfr3.setCell (.inr (by simp)) _); clear hw4; have d0 : w4.cell? ⟨w.heap.size, 0, none⟩ = some (.int .u64 N) := cell_of_row w4 _ 0 _ 153 _ hrow5; have d1 : w4.cell? ⟨w.heap.size, 1, none⟩ = some (.int .i64 (S + Q)) := cell_of_row w4 _ 1 _ 153 _ hrow5; have d2 : w4.cell? ⟨w.heap.size, 2, none⟩ = some (.pointer none) := cell_of_row w4 _ 2 _ 153 _ hrow5; have HR6 := Lib.hid hrow6; clear hrow6; have HF4 := Lib.hid hfr4; clear hfr4; have HR5 := Lib.hid hrow5; clear hrow5)
  rw [HBB.out]
  have x0 := frozen_of_row w4 (w.heap.size + 1) 0 _ 153 HR6.out
  have x1 := frozen_of_row w4 (w.heap.size + 1) 1 _ 153 HR6.out
  have x2 := frozen_of_row w4 (w.heap.size + 1) 2 _ 153 HR6.out
  have y0 : w4.cell? ⟨w.heap.size + 1, 0, none⟩ = some (.int .u64 0) := cell_of_row w4 _ 0 _ 153 _ HR6.out
  have y1 : w4.cell? ⟨w.heap.size + 1, 1, none⟩ = some (.int .i64 0) := cell_of_row w4 _ 1 _ 153 _ HR6.out
  have y2 : w4.cell? ⟨w.heap.size + 1, 2, none⟩ = some (.pointer none) := cell_of_row w4 _ 2 _ 153 _ HR6.out
  clear hrow3 hrow4 hfr3
  go_wp2_with fail
  (try simp only [Exit.inBlock, Exit.then])
  have e1 : (S * 1000000000 + W + d) % 1000000000 = N := by have := HF.out; omega
  have e2 : (S * 1000000000 + W + d) / 1000000000 = S + Q := by have := HF.out; omega
  refine bodyPost_ret (results_cell_row rfl _ _ (w.heap.size + 1) 153 #[.int .u64 N, .int .i64 (S + Q), .pointer none] (0, 0) _ rfl ?_ Tryz.underlying153 rfl rfl) rfl ?_
  · exact heap_setCell_same _ _ 2 _ 153 _ (heap_setCell_same _ _ 1 _ 153 _ (heap_setCell_same _ _ 0 _ 153 _ HR6.out))
  · refine ⟨by rw [tv, e1, e2], ?_⟩
    repeat (refine Fr.setCell ?_ (.inr (by simp)) _)
    exact HF4.out
end Go.Proofs.YtaaogjhaokaggaaGreatDoor
