import Derived.Test.YtaaogjhaokaggaaGreatDoorEncF
import Derived.Laws.BitsLemmas
import Derived.Lib.VarintBits
namespace Go.Proofs.YtaaogjhaokaggaaGreatDoor
open Go.RowKit

theorem b63 (W : Int) (h0 : 0 ≤ W) (h1 : W < 1073741824) : bits .and .u64 W 9223372036854775808 = 0 := by
  obtain ⟨a, rfl⟩ := Int.eq_ofNat_of_zero_le h0
  have ha : a < 2 ^ 64 := by omega
  have h := (bits_nat .u64 64 (by decide) wraps_u64 a (2 ^ 63) ha (by decide)).1
  have e : a &&& 2 ^ 63 = 0 := by
    apply Nat.eq_of_testBit_eq
    intro i
    rw [Nat.testBit_and, Nat.zero_testBit, Nat.testBit_two_pow]
    by_cases hi : 63 = i
    · subst hi; rw [Nat.testBit_lt_two_pow (by omega)]; rfl
    · simp [hi]
  rw [e] at h
  exact h
theorem b30 (W : Int) (h0 : 0 ≤ W) (h1 : W < 1073741824) : bits .and .u64 W 1073741823 = W := by
  have h := bits_mask .u64 64 (by decide) wraps_u64 30 (by decide) W h0 (by omega)
  have e : W % 2 ^ 30 = W := Int.emod_eq_of_lt h0 (by omega)
  rw [e] at h
  exact h
theorem bn30 (W : Int) (h0 : 0 ≤ W) (h1 : W < 1073741824) : bits .andNot .u64 W 1073741823 = 0 := by
  obtain ⟨a, rfl⟩ := Int.eq_ofNat_of_zero_le h0
  have e : BitVec.ofInt 64 (a : Int) = BitVec.ofNat 64 a := by simp
  have e2 : (BitVec.ofNat 64 a &&& ~~~ (BitVec.ofInt 64 1073741823)) = 0#64 := by
    apply BitVec.eq_of_getLsbD_eq
    intro i hi
    rw [BitVec.getLsbD_and, BitVec.getLsbD_not, show BitVec.ofInt 64 1073741823 = BitVec.ofNat 64 (2 ^ 30 - 1) from rfl, BitVec.getLsbD_ofNat, BitVec.getLsbD_ofNat, Nat.testBit_two_pow_sub_one]
    by_cases h30 : i < 30
    · simp [h30]
    · have : a.testBit i = false := Nat.testBit_lt_two_pow (Nat.lt_of_lt_of_le (show a < 2 ^ 30 by omega) (Nat.pow_le_pow_right (by decide) (by omega)))
      simp [this]
  show (IntKind.u64).wrap ((BitVec.ofInt 64 (a : Int) &&& ~~~ (BitVec.ofInt 64 1073741823)).toNat : Int) = 0
  rw [e, e2]
  rfl
theorem bo30 (W : Int) (h0 : 0 ≤ W) (h1 : W < 1073741824) : bits .or .u64 0 W = W := by
  have := u64_orv0 0 W (by omega) (by omega) h0 (by omega) (by omega)
  simpa using this

/-- A time without a monotone clock, T nanoseconds behind its zero. -/
def tv (T : Int) : Value := .agg #[.int .u64 (T % 1000000000), .int .i64 (T / 1000000000), .pointer none]

set_option maxRecDepth 100000 in
theorem nsec_any (p : Nat) (W : Int) (w : World) (h0 : 0 ≤ W) (h1 : W < 1000000000) (hc : w.cell? ⟨p, 0, none⟩ = some (.int .u64 W)) :
    Calls Tryz.prog 148 #[.pointer (some ⟨p, 0, none⟩)] w fun e w' => e = .returned (.int .i32 W) ∧ w' = w := by
  have hb := b30 W h0 (by omega)
  have hw : IntKind.i32.wrap W = W := by rw [IntKind.wrap_i32]; omega
  go_enter Tryz.func148, Tryz.ntmps148
  go_wp2
  go_ret
  exact ⟨by simp, rfl⟩

set_option maxRecDepth 100000 in
theorem sec_any (p : Nat) (W S : Int) (w : World) (h0 : 0 ≤ W) (h1 : W < 1000000000) (hc : w.cell? ⟨p, 0, none⟩ = some (.int .u64 W)) (hs : w.cell? ⟨p, 1, none⟩ = some (.int .i64 S)) :
    Calls Tryz.prog 181 #[.pointer (some ⟨p, 0, none⟩)] w fun e w' => e = .returned (.int .i64 S) ∧ w' = w := by
  have hb := b63 W h0 (by omega)
  go_enter Tryz.func181, Tryz.ntmps181
  go_wp2
  go_ret
  exact ⟨rfl, rfl⟩

set_option maxRecDepth 100000 in
theorem unixSec_any (p : Nat) (W S : Int) (w : World) (h0 : 0 ≤ W) (h1 : W < 1000000000) (hc : w.cell? ⟨p, 0, none⟩ = some (.int .u64 W)) (hs : w.cell? ⟨p, 1, none⟩ = some (.int .i64 S)) :
    Calls Tryz.prog 182 #[.pointer (some ⟨p, 0, none⟩)] w fun e w' => e = .returned (.int .i64 (wrap64 (S + (-62135596800)))) ∧ w' = w := by
  have h := sec_any p W S w h0 h1 hc hs
  go_enter Tryz.func182, Tryz.ntmps182
  go_wp2_with (go_at_call 181; refine h.mono ?_; rintro e w1 ⟨rfl, rfl⟩)
  go_ret
  exact ⟨rfl, rfl⟩

set_option maxRecDepth 100000 in
theorem strip_any (p : Nat) (W : Int) (w : World) (h0 : 0 ≤ W) (h1 : W < 1000000000) (hc : w.cell? ⟨p, 0, none⟩ = some (.int .u64 W)) (_hf : w.frozen? ⟨p, 0, none⟩ = false) :
    Calls Tryz.prog 150 #[.pointer (some ⟨p, 0, none⟩)] w fun e w' => e = .returned (.tuple #[]) ∧ w' = w := by
  have hb := b63 W h0 (by omega)
  have hb' := b30 W h0 (by omega)
  go_enter Tryz.func150, Tryz.ntmps150
  go_wp2
  refine bodyPost_end (results_none rfl _ _ _) rfl ?_
  exact ⟨rfl, rfl⟩

set_option maxRecDepth 100000 in
theorem addSec_any (p : Nat) (W S d : Int) (w : World) (h0 : 0 ≤ W) (h1 : W < 1000000000) (hs0 : -4611686018427387904 ≤ S) (hs1 : S < 4611686018427387904) (hd0 : -4611686018427387904 ≤ d) (hd1 : d < 4611686018427387904) (hc : w.cell? ⟨p, 0, none⟩ = some (.int .u64 W)) (hs : w.cell? ⟨p, 1, none⟩ = some (.int .i64 S)) (hf : w.frozen? ⟨p, 0, none⟩ = false) (hf1 : w.frozen? ⟨p, 1, none⟩ = false) :
    Calls Tryz.prog 149 #[.pointer (some ⟨p, 0, none⟩), .int .i64 d] w fun e w' => e = .returned (.tuple #[]) ∧ w' = w.setCell ⟨p, 1, none⟩ (.int .i64 (S + d)) := by
  have hb := b63 W h0 (by omega)
  have hst := strip_any p W w h0 h1 hc hf
  have hw : wrap64 (S + d) = S + d := (by unfold wrap64; omega)
  have hcmp : ((decide (S + d > S)) == decide (d > 0)) = true := by simp; omega
  go_enter Tryz.func149, Tryz.ntmps149
  go_wp2_with (go_at_call 150; refine hst.mono ?_; rintro e w1 ⟨rfl, rfl⟩)
  go_end0
  exact ⟨rfl, rfl⟩

set_option maxRecDepth 100000 in
theorem add_any (W S d : Int) (w : World) (h0 : 0 ≤ W) (h1 : W < 1000000000) (hs0 : -1000000000000000000 ≤ S) (hs1 : S < 1000000000000000000) (hd0 : -9223372036854775808 ≤ d) (hd1 : d ≤ 9223372036854775807) :
    Calls Tryz.prog 121 #[.agg #[.int .u64 W, .int .i64 S, .pointer none], .int .i64 d] w fun e w' => e = .returned (tv (S * 1000000000 + W + d)) ∧ Fr [] w w' := by
  have hqr : d.tdiv 1000000000 * 1000000000 + d.tmod 1000000000 = d := by have := Int.mul_tdiv_add_tmod d 1000000000; omega
  have hr : -1000000000 < d.tmod 1000000000 ∧ d.tmod 1000000000 < 1000000000 := by
    have := Int.tmod_lt_of_pos d (show (0 : Int) < 1000000000 by decide)
    have := Int.lt_tmod_of_pos d (show (0 : Int) < 1000000000 by decide)
    omega
  obtain ⟨q, hq⟩ : ∃ q, q = d.tdiv 1000000000 := ⟨_, rfl⟩
  obtain ⟨r, hrr⟩ : ∃ r, r = d.tmod 1000000000 := ⟨_, rfl⟩
  rw [← hq, ← hrr] at hqr
  rw [← hrr] at hr
  have hw1 : wrap32 r = r := by unfold wrap32; omega
  have hw2 : wrap32 (W + r) = W + r := by unfold wrap32; omega
  have HQ := Lib.hid hq; clear hq
  have HRR := Lib.hid hrr; clear hrr
  have HQR := Lib.hid hqr; clear hqr
  have HW1 := Lib.hid hw1; clear hw1
  have HW2 := Lib.hid hw2; clear hw2
  obtain ⟨Q, N, hN⟩ : ∃ Q N : Int, Q = (if 1000000000 ≤ W + r then q + 1 else if W + r < 0 then q - 1 else q) ∧ N = (if 1000000000 ≤ W + r then W + r - 1000000000 else if W + r < 0 then W + r + 1000000000 else W + r) := ⟨_, _, rfl, rfl⟩
  have HN := Lib.hid hN; clear hN
  have HF : Hid (0 ≤ N ∧ N < 1000000000 ∧ Q * 1000000000 + N = W + d) := Lib.hid (by
    obtain ⟨e1, e2⟩ := HN.out
    have := HQR.out
    rw [e1, e2]
    split
    · omega
    · split <;> omega)
  have HB := Lib.hid (bn30 W h0 (by omega))
  go_enter Tryz.func121, Tryz.ntmps121
  go_upto_if 16 with (go_at_call 148; refine (nsec_any _ W _ h0 h1 (by simp)).mono ?_; rintro e w1 ⟨rfl, rfl⟩)
  rw [← HQ.out, ← HRR.out, HW1.out, HW2.out]
  obtain ⟨w2, hw2⟩ : ∃ w2, w2 = (w.alloc (.cells #[.int .u64 W, .int .i64 S, .pointer none] 153)).alloc (.cells #[.int .u64 0, .int .i64 0, .pointer none] 153) := ⟨_, rfl⟩
  rw [← hw2]
  have HW := Lib.hid hw2; clear hw2
  go_cut [5, 6] (fun a b wx => a = .int .i64 Q ∧ b = .int .i32 N ∧ wx = w2)
  case first =>
    by_cases k1 : 1000000000 ≤ W + r
    · have KQ : Hid (Q = q + 1) := Lib.hid (by rw [HN.out.1, if_pos k1])
      have KN : Hid (N = W + r - 1000000000) := Lib.hid (by rw [HN.out.2, if_pos k1])
      have kd : decide (1000000000 ≤ W + r) = true := decide_eq_true k1
      go_wp2_with fail
      go_meet
      exact ⟨congrArg (Value.int .i64) (by have := KQ.out; have := HQR.out; first | omega | (unfold wrap64; omega)), congrArg (Value.int .i32) (by have := KN.out; first | omega | (unfold wrap32; omega)), rfl⟩
    · have kd : decide (1000000000 ≤ W + r) = false := decide_eq_false k1
      by_cases k2 : W + r < 0
      · have KQ : Hid (Q = q - 1) := Lib.hid (by rw [HN.out.1, if_neg k1, if_pos k2])
        have KN : Hid (N = W + r + 1000000000) := Lib.hid (by rw [HN.out.2, if_neg k1, if_pos k2])
        have kd2 : decide (W + r < 0) = true := decide_eq_true k2
        go_wp2_with fail
        go_meet
        exact ⟨congrArg (Value.int .i64) (by have := KQ.out; have := HQR.out; first | omega | (unfold wrap64; omega)), congrArg (Value.int .i32) (by have := KN.out; first | omega | (unfold wrap32; omega)), rfl⟩
      · have KQ : Hid (Q = q) := Lib.hid (by rw [HN.out.1, if_neg k1, if_neg k2])
        have KN : Hid (N = W + r) := Lib.hid (by rw [HN.out.2, if_neg k1, if_neg k2])
        have kd2 : decide (W + r < 0) = false := decide_eq_false k2
        go_wp2_with fail
        go_meet
        exact ⟨congrArg (Value.int .i64) (by have := KQ.out; have := HQR.out; first | omega | (unfold wrap64; omega)), congrArg (Value.int .i32) (by have := KN.out; first | omega | (unfold wrap32; omega)), rfl⟩
  obtain ⟨rfl, rfl, hwc⟩ := hcut
  have hwc' := hwc.symm
  subst hwc'
  have hF := HF.out
  have hn0 := hF.1
  have hn1 := hF.2.1
  have hQ0 : -10000000000 < Q ∧ Q < 10000000000 := by have := hF.2.2; omega
  clear hF
  have p0 : w2.cell? ⟨w.heap.size, 0, none⟩ = some (.int .u64 W) := by rw [HW.out]; simp
  have p1 : w2.cell? ⟨w.heap.size, 1, none⟩ = some (.int .i64 S) := by rw [HW.out]; simp
  have p2 : w2.cell? ⟨w.heap.size, 2, none⟩ = some (.pointer none) := by rw [HW.out]; simp
  have q0 : w2.frozen? ⟨w.heap.size, 0, none⟩ = false := by rw [HW.out]; simp
  have q1 : w2.frozen? ⟨w.heap.size, 1, none⟩ = false := by rw [HW.out]; simp
  have hwN : IntKind.u64.wrap N = N := by rw [IntKind.wrap_u64]; omega
  have HON := Lib.hid (bo30 N hn0 (by omega))
  have HBB := Lib.hid (b63 N hn0 (by omega))
  go_upto_region 10 with fail
  rw [HB.out, HON.out]
  obtain ⟨w3, hw3⟩ : ∃ x, x = w2.setCell ⟨w.heap.size, 0, none⟩ (.int .u64 N) := ⟨_, rfl⟩
  rw [← hw3]
  have hrow3 : w3.heap[w.heap.size]? = some (.cells #[.int .u64 N, .int .i64 S, .pointer none] 153 (0, 0)) := by
    rw [hw3]
    exact heap_setCell_same w2 w.heap.size 0 #[.int .u64 W, .int .i64 S, .pointer none] 153 _ (by
      rw [HW.out]
      show ((w.heap.push _).push _)[w.heap.size]? = _
      rw [Array.getElem?_push_lt (by simp)]
      simp)
  have hrow4 : w3.heap[w.heap.size + 1]? = some (.cells #[.int .u64 0, .int .i64 0, .pointer none] 153 (0, 0)) := by
    rw [hw3]
    exact ((Fr.refl [w.heap.size] w2).setCell (p := ⟨w.heap.size, 0, none⟩) (.inl (by simp)) (.int .u64 N)).blk (by
      rw [HW.out]
      show ((w.heap.push _).push _)[w.heap.size + 1]? = _
      have := @Array.getElem?_push_size _ (w.heap.push (.cells #[.int .u64 W, .int .i64 S, .pointer none] 153)) (.cells #[.int .u64 0, .int .i64 0, .pointer none] 153)
      simpa using this) (by simp)
  have hfr3 : Fr [] w w3 := by
    rw [hw3, HW.out]
    exact (((Fr.refl _ _).alloc _).alloc _).setCell (.inr (by simp)) _
  clear p0 p1 p2 q0 q1 HON HB
  have HW3 := Lib.hid hw3; clear hw3
  go_upto_if 39 with (go_at_call 149; refine (addSec_any _ N S Q _ hn0 hn1 (by omega) (by omega) (by omega) (by omega) (cell_of_row w3 _ 0 _ 153 _ hrow3) (cell_of_row w3 _ 1 _ 153 _ hrow3) (frozen_of_row w3 _ 0 _ 153 hrow3) (frozen_of_row w3 _ 1 _ 153 hrow3)).mono ?_; rintro e w4 ⟨rfl, hw4⟩; have hrow5 : w4.heap[w.heap.size]? = some (.cells #[.int .u64 N, .int .i64 (S + Q), .pointer none] 153 (0, 0)) := (by rw [hw4]; exact heap_setCell_same w3 w.heap.size 1 _ 153 _ hrow3); have hrow6 : w4.heap[w.heap.size + 1]? = some (.cells #[.int .u64 0, .int .i64 0, .pointer none] 153 (0, 0)) := (by rw [hw4]; exact ((Fr.refl [w.heap.size] w3).setCell (p := ⟨w.heap.size, 1, none⟩) (.inl (by simp)) _).blk hrow4 (by simp)); have hfr4 : Fr [] w w4 := (by rw [hw4]; exact hfr3.setCell (.inr (by simp)) _); clear hw4; have d0 : w4.cell? ⟨w.heap.size, 0, none⟩ = some (.int .u64 N) := cell_of_row w4 _ 0 _ 153 _ hrow5; have d1 : w4.cell? ⟨w.heap.size, 1, none⟩ = some (.int .i64 (S + Q)) := cell_of_row w4 _ 1 _ 153 _ hrow5; have d2 : w4.cell? ⟨w.heap.size, 2, none⟩ = some (.pointer none) := cell_of_row w4 _ 2 _ 153 _ hrow5; have HR6 := Lib.hid hrow6; clear hrow6; have HF4 := Lib.hid hfr4; clear hfr4; have HR5 := Lib.hid hrow5; clear hrow5)
  rw [HBB.out]
  have x0 := frozen_of_row w4 (w.heap.size + 1) 0 _ 153 HR6.out
  have x1 := frozen_of_row w4 (w.heap.size + 1) 1 _ 153 HR6.out
  have x2 := frozen_of_row w4 (w.heap.size + 1) 2 _ 153 HR6.out
  have y0 : w4.cell? ⟨w.heap.size + 1, 0, none⟩ = some (.int .u64 0) := cell_of_row w4 _ 0 _ 153 _ HR6.out
  have y1 : w4.cell? ⟨w.heap.size + 1, 1, none⟩ = some (.int .i64 0) := cell_of_row w4 _ 1 _ 153 _ HR6.out
  have y2 : w4.cell? ⟨w.heap.size + 1, 2, none⟩ = some (.pointer none) := cell_of_row w4 _ 2 _ 153 _ HR6.out
  clear hrow3 hrow4 hfr3
  go_wp2_with fail
  (try simp only [Exit.inBlock, Exit.then])
  have e1 : (S * 1000000000 + W + d) % 1000000000 = N := by have := HF.out; omega
  have e2 : (S * 1000000000 + W + d) / 1000000000 = S + Q := by have := HF.out; omega
  refine bodyPost_ret (results_cell_row rfl _ _ (w.heap.size + 1) 153 #[.int .u64 N, .int .i64 (S + Q), .pointer none] (0, 0) _ rfl ?_ Tryz.underlying153 rfl rfl) rfl ?_
  · exact heap_setCell_same _ _ 2 _ 153 _ (heap_setCell_same _ _ 1 _ 153 _ (heap_setCell_same _ _ 0 _ 153 _ HR6.out))
  · refine ⟨by rw [tv, e1, e2], ?_⟩
    repeat (refine Fr.setCell ?_ (.inr (by simp)) _)
    exact HF4.out
end Go.Proofs.YtaaogjhaokaggaaGreatDoor
namespace Go.Proofs.YtaaogjhaokaggaaGreatDoor
open Go.RowKit

theorem addT_any (T d : Int) (w : World) (h0 : -1000000000000000000000000 ≤ T) (h1 : T < 1000000000000000000000000) (hd0 : -9223372036854775808 ≤ d) (hd1 : d ≤ 9223372036854775807) :
    Calls Tryz.prog 121 #[.agg #[.int .u64 (T % 1000000000), .int .i64 (T / 1000000000), .pointer none], .int .i64 d] w fun e w' => e = .returned (.agg #[.int .u64 ((T + d) % 1000000000), .int .i64 ((T + d) / 1000000000), .pointer none]) ∧ Fr [] w w' := by
  refine (add_any (T % 1000000000) (T / 1000000000) d w (by omega) (by omega) (by omega) (by omega) hd0 hd1).mono ?_
  rintro e w' ⟨h, h'⟩
  have e1 : T / 1000000000 * 1000000000 + T % 1000000000 = T := by omega
  rw [e1] at h
  exact ⟨h, h'⟩

/-- The nanoseconds from a time's zero to 1970. -/
def T70 : Int := 62135596800000000000

def zcell : Obj := .cells #[.int .u64 0, .int .i64 0, .pointer none] 153 (0, 0)

set_option maxRecDepth 100000 in
set_option maxHeartbeats 1000000 in
theorem zzUnix_any (n : Int) (w : World) (h0 : -9223372036854775808 ≤ n) (h1 : n ≤ 9223372036854775807) :
    Calls Tryz.prog 120 #[.int .i64 n] w fun e w' => e = .returned (.agg #[.int .u64 ((T70 + n) % 1000000000), .int .i64 ((T70 + n) / 1000000000), .pointer none]) ∧ Fr [] w w' := by
  go_enter Tryz.func120, Tryz.ntmps120
  go_wp2
  go_loopw [4] (fun i wr => ∃ k : Nat, k ≤ 8 ∧ i = .int .i64 k ∧ wr.heap[w.heap.size]? = some (.cells #[.int .u64 0, .int .i64 0, .pointer none] 153 (0, 0)) ∧ wr.heap[w.heap.size + 1]? = some (.cells #[.int .u64 ((k * 7766949600000000000 : Int) % 1000000000), .int .i64 ((k * 7766949600000000000 : Int) / 1000000000), .pointer none] 153 (0, 0)) ∧ Fr [] w wr) (fun i _ => 8 - (intOf i).toNat)
  case atStart => exact ⟨0, by omega, rfl, ((Fr.refl [] _).alloc _).blk (heap_alloc_new _ _) (by simp), heap_alloc2_new _ _ _, ((Fr.refl _ _).alloc _).alloc _⟩
  case round =>
    obtain ⟨k, hk, rfl, hrA, hrB, hf⟩ := hrel
    obtain ⟨T, hT⟩ : ∃ T : Int, T = k * 7766949600000000000 := ⟨_, rfl⟩
    rw [← hT] at hrB
    have hT0 : 0 ≤ T ∧ T ≤ 62135596800000000000 := by omega
    have c0 : wr.cell? ⟨w.heap.size + 1, 0, none⟩ = some (.int .u64 (T % 1000000000)) := cell_of_row wr _ 0 _ 153 _ hrB
    have c1 : wr.cell? ⟨w.heap.size + 1, 1, none⟩ = some (.int .i64 (T / 1000000000)) := cell_of_row wr _ 1 _ 153 _ hrB
    have c2 : wr.cell? ⟨w.heap.size + 1, 2, none⟩ = some (.pointer none) := cell_of_row wr _ 2 _ 153 _ hrB
    have HA := Lib.hid hrA; clear hrA
    have HB := Lib.hid hrB; clear hrB
    have HT := Lib.hid hT; clear hT
    by_cases hlt : k < 8
    · go_wp2_with (go_at_call 121; refine (addT_any T 7766949600000000000 _ (by omega) (by omega) (by decide) (by decide)).mono ?_; rintro e w1 ⟨rfl, hf1⟩; have HB1 := Lib.hid (hf1.blk HB.out (by simp)); have d0 := cell_of_row w1 (w.heap.size + 1) 0 _ 153 _ HB1.out; have d1 := cell_of_row w1 (w.heap.size + 1) 1 _ 153 _ HB1.out; have d2 := cell_of_row w1 (w.heap.size + 1) 2 _ 153 _ HB1.out; have f0 := frozen_of_row w1 (w.heap.size + 1) 0 _ 153 HB1.out; have f1 := frozen_of_row w1 (w.heap.size + 1) 1 _ 153 HB1.out; have f2 := frozen_of_row w1 (w.heap.size + 1) 2 _ 153 HB1.out)
      go_roundw
      case rel =>
        have hT2 : ((k + 1 : Nat) : Int) * 7766949600000000000 = T + 7766949600000000000 := by have := HT.out; omega
        refine ⟨k + 1, by omega, by go_num, ?_, ?_, ?_⟩
        · rw [heap_setCell_other _ _ _ _ (by simp), heap_setCell_other _ _ _ _ (by simp), heap_setCell_other _ _ _ _ (by simp)]
          exact hf1.blk HA.out (by simp)
        · rw [hT2]
          exact heap_setCell_same _ _ 2 _ 153 _ (heap_setCell_same _ _ 1 _ 153 _ (heap_setCell_same _ _ 0 _ 153 _ HB1.out))
        · exact ((((hf.trans hf1)).setCell (.inr (by simp)) _).setCell (.inr (by simp)) _).setCell (.inr (by simp)) _
      case measure => simp [intOf]; omega
    · have : k = 8 := by omega
      subst this
      have hT8 : T = T70 := by have := HT.out; unfold T70; omega
      have HT8 := Lib.hid hT8; clear hT8
      go_wp2_with (go_at_call 121; refine (addT_any T n _ (by omega) (by omega) h0 h1).mono ?_; rintro e w1 ⟨rfl, hf1⟩; have HA1 := Lib.hid (hf1.blk HA.out (by simp)); have d0 := cell_of_row w1 (w.heap.size) 0 _ 153 _ HA1.out; have d1 := cell_of_row w1 (w.heap.size) 1 _ 153 _ HA1.out; have d2 := cell_of_row w1 (w.heap.size) 2 _ 153 _ HA1.out; have f0 := frozen_of_row w1 (w.heap.size) 0 _ 153 HA1.out; have f1 := frozen_of_row w1 (w.heap.size) 1 _ 153 HA1.out; have f2 := frozen_of_row w1 (w.heap.size) 2 _ 153 HA1.out)
      (try simp only [Exit.inBlock, Exit.then])
      refine bodyPost_ret (results_cell_row rfl _ _ w.heap.size 153 #[.int .u64 ((T + n) % 1000000000), .int .i64 ((T + n) / 1000000000), .pointer none] (0, 0) _ rfl ?_ Tryz.underlying153 rfl rfl) rfl ?_
      · exact heap_setCell_same _ _ 2 _ 153 _ (heap_setCell_same _ _ 1 _ 153 _ (heap_setCell_same _ _ 0 _ 153 _ HA1.out))
      · refine ⟨by rw [HT8.out], ?_⟩
        repeat (refine Fr.setCell ?_ (.inr (by simp)) _)
        exact hf.trans hf1

set_option maxRecDepth 100000 in
theorem minTime_any (w : World) :
    Calls Tryz.prog 153 #[] w fun e w' => e = .returned (.agg #[.int .u64 ((T70 + (-9223372036854775808)) % 1000000000), .int .i64 ((T70 + (-9223372036854775808)) / 1000000000), .pointer none]) ∧ Fr [] w w' := by
  obtain ⟨a, ha⟩ : ∃ a : Int, a = (T70 + (-9223372036854775808)) % 1000000000 := ⟨_, rfl⟩
  obtain ⟨b, hb⟩ : ∃ b : Int, b = (T70 + (-9223372036854775808)) / 1000000000 := ⟨_, rfl⟩
  have hz := fun w => zzUnix_any (-9223372036854775808) w (by decide) (by decide)
  rw [← ha, ← hb] at *
  clear ha hb
  have HZ := Lib.hid hz; clear hz
  have HR : Hid ((w.alloc (.cells #[.int .u64 0, .int .i64 0, .pointer none] 153)).heap[w.heap.size]? = some (.cells #[.int .u64 0, .int .i64 0, .pointer none] 153 (0, 0))) := Lib.hid (heap_alloc_new _ _)
  go_enter Tryz.func153, Tryz.ntmps153
  go_wp2_with (go_at_call 120; refine (HZ.out _).mono ?_; rintro e w1 ⟨rfl, hf1⟩; have HA1 := Lib.hid (hf1.blk HR.out (by simp)); have d0 := cell_of_row w1 (w.heap.size) 0 _ 153 _ HA1.out; have d1 := cell_of_row w1 (w.heap.size) 1 _ 153 _ HA1.out; have d2 := cell_of_row w1 (w.heap.size) 2 _ 153 _ HA1.out; have f0 := frozen_of_row w1 (w.heap.size) 0 _ 153 HA1.out; have f1 := frozen_of_row w1 (w.heap.size) 1 _ 153 HA1.out; have f2 := frozen_of_row w1 (w.heap.size) 2 _ 153 HA1.out)
  (try simp only [Exit.inBlock, Exit.then])
  refine bodyPost_ret (results_cell_row rfl _ _ w.heap.size 153 #[.int .u64 a, .int .i64 b, .pointer none] (0, 0) _ rfl ?_ Tryz.underlying153 rfl rfl) rfl ?_
  · exact heap_setCell_same _ _ 2 _ 153 _ (heap_setCell_same _ _ 1 _ 153 _ (heap_setCell_same _ _ 0 _ 153 _ HA1.out))
  · refine ⟨rfl, ?_⟩
    repeat (refine Fr.setCell ?_ (.inr (by simp)) _)
    exact ((Fr.refl _ _).alloc _).trans hf1

set_option maxRecDepth 100000 in
theorem maxTime_any (w : World) :
    Calls Tryz.prog 155 #[] w fun e w' => e = .returned (.agg #[.int .u64 ((T70 + 9223372036854775807) % 1000000000), .int .i64 ((T70 + 9223372036854775807) / 1000000000), .pointer none]) ∧ Fr [] w w' := by
  obtain ⟨a, ha⟩ : ∃ a : Int, a = (T70 + 9223372036854775807) % 1000000000 := ⟨_, rfl⟩
  obtain ⟨b, hb⟩ : ∃ b : Int, b = (T70 + 9223372036854775807) / 1000000000 := ⟨_, rfl⟩
  have hz := fun w => zzUnix_any 9223372036854775807 w (by decide) (by decide)
  rw [← ha, ← hb] at *
  clear ha hb
  have HZ := Lib.hid hz; clear hz
  have HR : Hid ((w.alloc (.cells #[.int .u64 0, .int .i64 0, .pointer none] 153)).heap[w.heap.size]? = some (.cells #[.int .u64 0, .int .i64 0, .pointer none] 153 (0, 0))) := Lib.hid (heap_alloc_new _ _)
  go_enter Tryz.func155, Tryz.ntmps155
  go_wp2_with (go_at_call 120; refine (HZ.out _).mono ?_; rintro e w1 ⟨rfl, hf1⟩; have HA1 := Lib.hid (hf1.blk HR.out (by simp)); have d0 := cell_of_row w1 (w.heap.size) 0 _ 153 _ HA1.out; have d1 := cell_of_row w1 (w.heap.size) 1 _ 153 _ HA1.out; have d2 := cell_of_row w1 (w.heap.size) 2 _ 153 _ HA1.out; have f0 := frozen_of_row w1 (w.heap.size) 0 _ 153 HA1.out; have f1 := frozen_of_row w1 (w.heap.size) 1 _ 153 HA1.out; have f2 := frozen_of_row w1 (w.heap.size) 2 _ 153 HA1.out)
  (try simp only [Exit.inBlock, Exit.then])
  refine bodyPost_ret (results_cell_row rfl _ _ w.heap.size 153 #[.int .u64 a, .int .i64 b, .pointer none] (0, 0) _ rfl ?_ Tryz.underlying153 rfl rfl) rfl ?_
  · exact heap_setCell_same _ _ 2 _ 153 _ (heap_setCell_same _ _ 1 _ 153 _ (heap_setCell_same _ _ 0 _ 153 _ HA1.out))
  · refine ⟨rfl, ?_⟩
    repeat (refine Fr.setCell ?_ (.inr (by simp)) _)
    exact ((Fr.refl _ _).alloc _).trans hf1

set_option maxRecDepth 100000 in
theorem isZero_any (T : Int) (w : World) :
    Calls Tryz.prog 151 #[.agg #[.int .u64 (T % 1000000000), .int .i64 (T / 1000000000), .pointer none]] w fun e w' => e = .returned (.bool (T == 0)) ∧ Fr [] w w' := by
  obtain ⟨a, ha⟩ : ∃ a : Int, a = T % 1000000000 := ⟨_, rfl⟩
  obtain ⟨b, hb⟩ : ∃ b : Int, b = T / 1000000000 := ⟨_, rfl⟩
  have hab : (T == 0) = ((a == 0) && (b == 0)) := by
    rw [Bool.eq_iff_iff]; simp; omega
  rw [hab, ← ha, ← hb]
  clear ha hb hab
  by_cases h : a = 0
  · subst h
    go_enter Tryz.func151, Tryz.ntmps151
    go_wp2
    go_ret
    exact ⟨by simp, (Fr.refl _ _).alloc _⟩
  · have hh : (a == 0) = false := by simpa using h
    go_enter Tryz.func151, Tryz.ntmps151
    go_wp2
    go_ret
    exact ⟨by simp [hh], (Fr.refl _ _).alloc _⟩

set_option maxRecDepth 100000 in
theorem unixNano_any (T : Int) (w : World) (h0 : -9223372036854775808 ≤ T - T70) (h1 : T - T70 ≤ 9223372036854775807) :
    Calls Tryz.prog 156 #[.agg #[.int .u64 (T % 1000000000), .int .i64 (T / 1000000000), .pointer none]] w fun e w' => e = .returned (.int .i64 (T - T70)) ∧ Fr [] w w' := by
  obtain ⟨a, ha⟩ : ∃ a : Int, a = T % 1000000000 := ⟨_, rfl⟩
  obtain ⟨b, hb⟩ : ∃ b : Int, b = T / 1000000000 := ⟨_, rfl⟩
  have ha0 : 0 ≤ a ∧ a < 1000000000 := by omega
  have hT : Hid (T = b * 1000000000 + a) := Lib.hid (by omega)
  have H0 := Lib.hid h0; clear h0
  have H1 := Lib.hid h1; clear h1
  rw [← ha, ← hb]
  clear ha hb
  go_enter Tryz.func156, Tryz.ntmps156
  go_wp2_with (first
    | (go_at_call 182; refine (unixSec_any _ a b _ ha0.1 ha0.2 (by simp) (by simp)).mono ?_; rintro e w1 ⟨rfl, rfl⟩)
    | (go_at_call 148; refine (nsec_any _ a _ ha0.1 ha0.2 (by simp)).mono ?_; rintro e w1 ⟨rfl, rfl⟩))
  go_ret
  refine ⟨congrArg (fun n => Ending.returned (.int .i64 n)) ?_, (Fr.refl _ _).alloc _⟩
  have := hT.out
  have := H0.out
  have := H1.out
  unfold T70 at *
  first | omega | (unfold wrap64; omega)
end Go.Proofs.YtaaogjhaokaggaaGreatDoor
namespace Go.Proofs.YtaaogjhaokaggaaGreatDoor
open Go.RowKit

set_option maxRecDepth 100000 in
theorem before_any (T U : Int) (w : World) :
    Calls Tryz.prog 152 #[.agg #[.int .u64 (T % 1000000000), .int .i64 (T / 1000000000), .pointer none], .agg #[.int .u64 (U % 1000000000), .int .i64 (U / 1000000000), .pointer none]] w fun e w' => e = .returned (.bool (decide (T < U))) ∧ Fr [] w w' := by
  obtain ⟨a, ha⟩ : ∃ a : Int, a = T % 1000000000 := ⟨_, rfl⟩
  obtain ⟨b, hb⟩ : ∃ b : Int, b = T / 1000000000 := ⟨_, rfl⟩
  obtain ⟨c, hc⟩ : ∃ a : Int, a = U % 1000000000 := ⟨_, rfl⟩
  obtain ⟨d, hd⟩ : ∃ b : Int, b = U / 1000000000 := ⟨_, rfl⟩
  have ha0 : 0 ≤ a ∧ a < 1000000000 := by omega
  have hc0 : 0 ≤ c ∧ c < 1000000000 := by omega
  have hbit : bits .and .u64 (bits .and .u64 a c) 9223372036854775808 = 0 := by
    obtain ⟨x, rfl⟩ := Int.eq_ofNat_of_zero_le ha0.1
    obtain ⟨y, rfl⟩ := Int.eq_ofNat_of_zero_le hc0.1
    rw [(bits_nat .u64 64 (by decide) wraps_u64 x y (by omega) (by omega)).1]
    exact b63 _ (Int.natCast_nonneg _) (by have := @Nat.and_le_left x y; omega)
  have hT : Hid ((T < U) ↔ (b < d ∨ b = d ∧ a < c)) := Lib.hid (by omega)
  rw [← ha, ← hb, ← hc, ← hd]
  clear ha hb hc hd
  have P0 := Lib.hid (show ((w.alloc (.cells #[.int .u64 a, .int .i64 b, .pointer none] 153)).alloc (.cells #[.int .u64 c, .int .i64 d, .pointer none] 153)).cell? ⟨w.heap.size + 1, 0, none⟩ = some (.int .u64 c) from cell_of_row _ _ 0 _ 153 _ (heap_alloc2_new w _ _))
  have P1 := Lib.hid (show ((w.alloc (.cells #[.int .u64 a, .int .i64 b, .pointer none] 153)).alloc (.cells #[.int .u64 c, .int .i64 d, .pointer none] 153)).cell? ⟨w.heap.size + 1, 1, none⟩ = some (.int .i64 d) from cell_of_row _ _ 1 _ 153 _ (heap_alloc2_new w _ _))
  rcases Int.lt_trichotomy b d with h | h | h
  · have hx1 : decide (b < d) = true := decide_eq_true h
    have hx2 : decide (b > d) = false := decide_eq_false (by omega)
    have hx3 : (b == d) = false := by rw [beq_eq_false_iff_ne]; omega
    have H := Lib.hid h; clear h
    go_enter Tryz.func152, Tryz.ntmps152
    go_wp2_with (first
      | (go_at_call_of 181 (Value.pointer (some ⟨w.heap.size, 0, none⟩)); refine (sec_any _ a b _ ha0.1 ha0.2 (by simp) (by simp)).mono ?_; rintro e w1 ⟨rfl, rfl⟩)
      | (go_at_call 181; refine (sec_any _ c d _ hc0.1 hc0.2 P0.out P1.out).mono ?_; rintro e w1 ⟨rfl, rfl⟩)
      | (go_at_call_of 148 (Value.pointer (some ⟨w.heap.size, 0, none⟩)); refine (nsec_any _ a _ ha0.1 ha0.2 (by simp)).mono ?_; rintro e w1 ⟨rfl, rfl⟩)
      | (go_at_call 148; refine (nsec_any _ c _ hc0.1 hc0.2 P0.out).mono ?_; rintro e w1 ⟨rfl, rfl⟩))
    go_ret
    refine ⟨congrArg (fun n => Ending.returned (.bool n)) ?_, ((Fr.refl _ _).alloc _).alloc _⟩
    have := H.out
    have h2 := hT.out
    (try simp only [Int.lt_irrefl, gt_iff_lt, false_or, true_and] at h2)
    rw [Bool.eq_iff_iff]
    simp
    omega
  · subst h
    have hx1 : decide (b < b) = false := decide_eq_false (by omega)
    have H : Hid (b = b) := Lib.hid rfl
    go_enter Tryz.func152, Tryz.ntmps152
    go_wp2_with (first
      | (go_at_call_of 181 (Value.pointer (some ⟨w.heap.size, 0, none⟩)); refine (sec_any _ a b _ ha0.1 ha0.2 (by simp) (by simp)).mono ?_; rintro e w1 ⟨rfl, rfl⟩)
      | (go_at_call 181; refine (sec_any _ c b _ hc0.1 hc0.2 P0.out P1.out).mono ?_; rintro e w1 ⟨rfl, rfl⟩)
      | (go_at_call_of 148 (Value.pointer (some ⟨w.heap.size, 0, none⟩)); refine (nsec_any _ a _ ha0.1 ha0.2 (by simp)).mono ?_; rintro e w1 ⟨rfl, rfl⟩)
      | (go_at_call 148; refine (nsec_any _ c _ hc0.1 hc0.2 P0.out).mono ?_; rintro e w1 ⟨rfl, rfl⟩))
    go_ret
    refine ⟨congrArg (fun n => Ending.returned (.bool n)) ?_, ((Fr.refl _ _).alloc _).alloc _⟩
    have := H.out
    have h2 := hT.out
    (try simp only [Int.lt_irrefl, false_or, true_and] at h2)
    rw [Bool.eq_iff_iff]
    simp
    omega
  · have hx1 : decide (b < d) = false := decide_eq_false (by omega)
    have hx2 : decide (b > d) = true := decide_eq_true h
    have hx3 : (b == d) = false := by rw [beq_eq_false_iff_ne]; omega
    have H := Lib.hid h; clear h
    go_enter Tryz.func152, Tryz.ntmps152
    go_wp2_with (first
      | (go_at_call_of 181 (Value.pointer (some ⟨w.heap.size, 0, none⟩)); refine (sec_any _ a b _ ha0.1 ha0.2 (by simp) (by simp)).mono ?_; rintro e w1 ⟨rfl, rfl⟩)
      | (go_at_call 181; refine (sec_any _ c d _ hc0.1 hc0.2 P0.out P1.out).mono ?_; rintro e w1 ⟨rfl, rfl⟩)
      | (go_at_call_of 148 (Value.pointer (some ⟨w.heap.size, 0, none⟩)); refine (nsec_any _ a _ ha0.1 ha0.2 (by simp)).mono ?_; rintro e w1 ⟨rfl, rfl⟩)
      | (go_at_call 148; refine (nsec_any _ c _ hc0.1 hc0.2 P0.out).mono ?_; rintro e w1 ⟨rfl, rfl⟩))
    go_ret
    refine ⟨congrArg (fun n => Ending.returned (.bool n)) ?_, ((Fr.refl _ _).alloc _).alloc _⟩
    have := H.out
    have h2 := hT.out
    (try simp only [Int.lt_irrefl, gt_iff_lt, false_or, true_and] at h2)
    rw [Bool.eq_iff_iff]
    simp
    omega

set_option maxRecDepth 100000 in
theorem after_any (T U : Int) (w : World) :
    Calls Tryz.prog 154 #[.agg #[.int .u64 (T % 1000000000), .int .i64 (T / 1000000000), .pointer none], .agg #[.int .u64 (U % 1000000000), .int .i64 (U / 1000000000), .pointer none]] w fun e w' => e = .returned (.bool (decide (T > U))) ∧ Fr [] w w' := by
  obtain ⟨a, ha⟩ : ∃ a : Int, a = T % 1000000000 := ⟨_, rfl⟩
  obtain ⟨b, hb⟩ : ∃ b : Int, b = T / 1000000000 := ⟨_, rfl⟩
  obtain ⟨c, hc⟩ : ∃ a : Int, a = U % 1000000000 := ⟨_, rfl⟩
  obtain ⟨d, hd⟩ : ∃ b : Int, b = U / 1000000000 := ⟨_, rfl⟩
  have ha0 : 0 ≤ a ∧ a < 1000000000 := by omega
  have hc0 : 0 ≤ c ∧ c < 1000000000 := by omega
  have hbit : bits .and .u64 (bits .and .u64 a c) 9223372036854775808 = 0 := by
    obtain ⟨x, rfl⟩ := Int.eq_ofNat_of_zero_le ha0.1
    obtain ⟨y, rfl⟩ := Int.eq_ofNat_of_zero_le hc0.1
    rw [(bits_nat .u64 64 (by decide) wraps_u64 x y (by omega) (by omega)).1]
    exact b63 _ (Int.natCast_nonneg _) (by have := @Nat.and_le_left x y; omega)
  have hT : Hid ((T > U) ↔ (b > d ∨ b = d ∧ a > c)) := Lib.hid (by omega)
  rw [← ha, ← hb, ← hc, ← hd]
  clear ha hb hc hd
  have P0 := Lib.hid (show ((w.alloc (.cells #[.int .u64 a, .int .i64 b, .pointer none] 153)).alloc (.cells #[.int .u64 c, .int .i64 d, .pointer none] 153)).cell? ⟨w.heap.size + 1, 0, none⟩ = some (.int .u64 c) from cell_of_row _ _ 0 _ 153 _ (heap_alloc2_new w _ _))
  have P1 := Lib.hid (show ((w.alloc (.cells #[.int .u64 a, .int .i64 b, .pointer none] 153)).alloc (.cells #[.int .u64 c, .int .i64 d, .pointer none] 153)).cell? ⟨w.heap.size + 1, 1, none⟩ = some (.int .i64 d) from cell_of_row _ _ 1 _ 153 _ (heap_alloc2_new w _ _))
  rcases Int.lt_trichotomy b d with h | h | h
  · have hx1 : decide (b < d) = true := decide_eq_true h
    have hx2 : decide (b > d) = false := decide_eq_false (by omega)
    have hx3 : (b == d) = false := by rw [beq_eq_false_iff_ne]; omega
    have H := Lib.hid h; clear h
    go_enter Tryz.func154, Tryz.ntmps154
    go_wp2_with (first
      | (go_at_call_of 181 (Value.pointer (some ⟨w.heap.size, 0, none⟩)); refine (sec_any _ a b _ ha0.1 ha0.2 (by simp) (by simp)).mono ?_; rintro e w1 ⟨rfl, rfl⟩)
      | (go_at_call 181; refine (sec_any _ c d _ hc0.1 hc0.2 P0.out P1.out).mono ?_; rintro e w1 ⟨rfl, rfl⟩)
      | (go_at_call_of 148 (Value.pointer (some ⟨w.heap.size, 0, none⟩)); refine (nsec_any _ a _ ha0.1 ha0.2 (by simp)).mono ?_; rintro e w1 ⟨rfl, rfl⟩)
      | (go_at_call 148; refine (nsec_any _ c _ hc0.1 hc0.2 P0.out).mono ?_; rintro e w1 ⟨rfl, rfl⟩))
    go_ret
    refine ⟨congrArg (fun n => Ending.returned (.bool n)) ?_, ((Fr.refl _ _).alloc _).alloc _⟩
    have := H.out
    have h2 := hT.out
    (try simp only [gt_iff_lt] at h2)
    rw [Bool.eq_iff_iff]
    simp
    omega
  · subst h
    have hx1 : decide (b < b) = false := decide_eq_false (by omega)
    have H : Hid (b = b) := Lib.hid rfl
    go_enter Tryz.func154, Tryz.ntmps154
    go_wp2_with (first
      | (go_at_call_of 181 (Value.pointer (some ⟨w.heap.size, 0, none⟩)); refine (sec_any _ a b _ ha0.1 ha0.2 (by simp) (by simp)).mono ?_; rintro e w1 ⟨rfl, rfl⟩)
      | (go_at_call 181; refine (sec_any _ c b _ hc0.1 hc0.2 P0.out P1.out).mono ?_; rintro e w1 ⟨rfl, rfl⟩)
      | (go_at_call_of 148 (Value.pointer (some ⟨w.heap.size, 0, none⟩)); refine (nsec_any _ a _ ha0.1 ha0.2 (by simp)).mono ?_; rintro e w1 ⟨rfl, rfl⟩)
      | (go_at_call 148; refine (nsec_any _ c _ hc0.1 hc0.2 P0.out).mono ?_; rintro e w1 ⟨rfl, rfl⟩))
    go_ret
    refine ⟨congrArg (fun n => Ending.returned (.bool n)) ?_, ((Fr.refl _ _).alloc _).alloc _⟩
    have := H.out
    have h2 := hT.out
    (try simp only [Int.lt_irrefl, gt_iff_lt, false_or, true_and] at h2)
    rw [Bool.eq_iff_iff]
    simp
    omega
  · have hx1 : decide (b < d) = false := decide_eq_false (by omega)
    have hx2 : decide (b > d) = true := decide_eq_true h
    have hx3 : (b == d) = false := by rw [beq_eq_false_iff_ne]; omega
    have H := Lib.hid h; clear h
    go_enter Tryz.func154, Tryz.ntmps154
    go_wp2_with (first
      | (go_at_call_of 181 (Value.pointer (some ⟨w.heap.size, 0, none⟩)); refine (sec_any _ a b _ ha0.1 ha0.2 (by simp) (by simp)).mono ?_; rintro e w1 ⟨rfl, rfl⟩)
      | (go_at_call 181; refine (sec_any _ c d _ hc0.1 hc0.2 P0.out P1.out).mono ?_; rintro e w1 ⟨rfl, rfl⟩)
      | (go_at_call_of 148 (Value.pointer (some ⟨w.heap.size, 0, none⟩)); refine (nsec_any _ a _ ha0.1 ha0.2 (by simp)).mono ?_; rintro e w1 ⟨rfl, rfl⟩)
      | (go_at_call 148; refine (nsec_any _ c _ hc0.1 hc0.2 P0.out).mono ?_; rintro e w1 ⟨rfl, rfl⟩))
    go_ret
    refine ⟨congrArg (fun n => Ending.returned (.bool n)) ?_, ((Fr.refl _ _).alloc _).alloc _⟩
    have := H.out
    have h2 := hT.out
    (try simp only [gt_iff_lt] at h2)
    rw [Bool.eq_iff_iff]
    simp
    omega
end Go.Proofs.YtaaogjhaokaggaaGreatDoor
