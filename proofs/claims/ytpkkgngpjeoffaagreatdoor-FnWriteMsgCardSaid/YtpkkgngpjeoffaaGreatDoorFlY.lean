/- PROVED HERE: the shortest digits of a double (internal/strconv.shortFloat): some digits and place, the same in every world. CONDITIONS: those ahead of each theorem. -/
import Derived.Test.YtpkkgngpjeoffaaGreatDoorFlX
import Derived.Test.YtpkkgngpjeoffaaGreatDoorShelf
import Derived.Sort.AtCall
import Derived.Lib.ItoaLen
namespace Go.Proofs.YtpkkgngpjeoffaaGreatDoor
open Go.RowKit

theorem uscale_int (x : Int) (hi lo : Nat) (hx0 : 0 ≤ x) (hx : x < 18446744073709551616) (hh : hi < 18446744073709551616) (hl : lo < 18446744073709551616) (s : Int) (hs0 : 0 ≤ s) (hs1 : s < 64) :
    ∃ r : Int, ∀ (w : World) (b : Nat), w.heap[b]? = some (.cells #[.int .u64 hi, .int .u64 lo, .int .i64 s] 307 (0, 0)) → Calls Tryz.prog 158 #[.int .u64 x, .pointer (some ⟨b, 0, none⟩)] w fun e w' => e = .returned (.int .u64 r) ∧ Fr [] w w' := by
  have h := uscale_ex x.toNat hi lo (by omega) hh hl s hs0 hs1
  rw [Int.toNat_of_nonneg hx0] at h
  exact h
/-- What the three scalings of a number come to. -/
structure Pieces (m mn mx od : Int) (hi lo : Nat) (s : Int) (dmin dmax dr um ux uu nm nx : Int) : Prop where
  a1 : ∀ (w : World) (b : Nat), w.heap[b]? = some (.cells #[.int .u64 hi, .int .u64 lo, .int .i64 s] 307 (0, 0)) → Calls Tryz.prog 158 #[.int .u64 mn, .pointer (some ⟨b, 0, none⟩)] w fun e w' => e = .returned (.int .u64 um) ∧ Fr [] w w'
  a2 : ∀ w, Calls Tryz.prog 159 #[.int .u64 um, .int .i64 od] w fun e w' => e = .returned (.int .u64 nm) ∧ w' = w
  a3 : ∀ w, Calls Tryz.prog 160 #[.int .u64 nm] w fun e w' => e = .returned (.int .u64 dmin) ∧ w' = w
  b1 : ∀ (w : World) (b : Nat), w.heap[b]? = some (.cells #[.int .u64 hi, .int .u64 lo, .int .i64 s] 307 (0, 0)) → Calls Tryz.prog 158 #[.int .u64 mx, .pointer (some ⟨b, 0, none⟩)] w fun e w' => e = .returned (.int .u64 ux) ∧ Fr [] w w'
  b2 : ∀ w, Calls Tryz.prog 159 #[.int .u64 ux, .int .i64 (wrap64 (-od))] w fun e w' => e = .returned (.int .u64 nx) ∧ w' = w
  b3 : ∀ w, Calls Tryz.prog 161 #[.int .u64 nx] w fun e w' => e = .returned (.int .u64 dmax) ∧ w' = w
  c1 : ∀ (w : World) (b : Nat), w.heap[b]? = some (.cells #[.int .u64 hi, .int .u64 lo, .int .i64 s] 307 (0, 0)) → Calls Tryz.prog 158 #[.int .u64 m, .pointer (some ⟨b, 0, none⟩)] w fun e w' => e = .returned (.int .u64 uu) ∧ Fr [] w w'
  c2 : ∀ w, Calls Tryz.prog 162 #[.int .u64 uu] w fun e w' => e = .returned (.int .u64 dr) ∧ w' = w
theorem wrap_u64_ok (x : Int) : 0 ≤ IntKind.u64.wrap x ∧ IntKind.u64.wrap x < 18446744073709551616 := by rw [IntKind.wrap_u64]; omega
theorem pieces (m mn mx od : Int) (hm : 0 ≤ m ∧ m < 18446744073709551616) (hmn : 0 ≤ mn ∧ mn < 18446744073709551616) (hmx : 0 ≤ mx ∧ mx < 18446744073709551616) (hi lo : Nat) (hh : hi < 18446744073709551616) (hl : lo < 18446744073709551616) (s : Int) (hs : 0 ≤ s ∧ s < 64) :
    ∃ dmin dmax dr um ux uu nm nx : Int, (0 ≤ dmin ∧ dmin < 18446744073709551616) ∧ (0 ≤ dmax ∧ dmax < 18446744073709551616) ∧ (0 ≤ dr ∧ dr < 18446744073709551616) ∧ Pieces m mn mx od hi lo s dmin dmax dr um ux uu nm nx := by
  obtain ⟨um, h1⟩ := uscale_int mn hi lo hmn.1 hmn.2 hh hl s hs.1 hs.2
  obtain ⟨ux, h2⟩ := uscale_int mx hi lo hmx.1 hmx.2 hh hl s hs.1 hs.2
  obtain ⟨uu, h3⟩ := uscale_int m hi lo hm.1 hm.2 hh hl s hs.1 hs.2
  have n1 := nudge_any um od
  have n2 := nudge_any ux (wrap64 (-od))
  have k1 := ceil_any (IntKind.u64.wrap (um + IntKind.u64.wrap od))
  obtain ⟨dmax, hd, k2⟩ := floor_ex (IntKind.u64.wrap (ux + IntKind.u64.wrap (wrap64 (-od))))
  obtain ⟨dr, hr, k3⟩ := round_ex uu
  have w1 := wrap_u64_ok (IntKind.u64.wrap (um + IntKind.u64.wrap od) + 3)
  have w2 := wrap_u64_ok (ux + IntKind.u64.wrap (wrap64 (-od)))
  have hd2 := hd w2.1 w2.2
  exact ⟨_, dmax, dr, um, ux, uu, _, _, ⟨by omega, by omega⟩, ⟨by omega, by omega⟩, hr, ⟨h1, n1, k1, h2, n2, k2, h3, k3⟩⟩
set_option maxRecDepth 100000 in
set_option maxHeartbeats 4000000 in
theorem short_A (e : Int) (he0 : -1085 < e) (he1 : e ≤ 960) : ∃ d p : Int, (0 ≤ d ∧ d < 18446744073709551616 ∧ -500 ≤ p ∧ p ≤ 500) ∧ ∀ (B : Nat) (ea : Addr) (w : World), Gp B ea w → Calls Tryz.prog 136 #[.int .u64 9223372036854775808, .int .i64 e] w fun ε w' => ε = .returned (.tuple #[.int .u64 d, .int .i64 p]) ∧ Fr [] w w' := by
  have k1 : decide (e > -1085) = true := decide_eq_true he0
  obtain ⟨i, hi⟩ : ∃ i : Nat, (i : Int) = (-(((e + 11) * 631305 - 261663) / 2097152)) + 348 := ⟨((-(((e + 11) * 631305 - 261663) / 2097152)) + 348).toNat, Int.toNat_of_nonneg (by omega)⟩
  obtain ⟨P, hP⟩ : ∃ P : Int, P = (-(((e + 11) * 631305 - 261663) / 2097152)) := ⟨_, rfl⟩
  have hPr : -400 ≤ P ∧ P ≤ 398 := by omega
  obtain ⟨s, hs⟩ : ∃ s : Int, s = -(e + P * 108853 / 32768 + 3) := ⟨_, rfl⟩
  have hs2 : 0 ≤ s ∧ s < 64 := by omega
  obtain ⟨dmin, dmax, dr, um, ux, uu, nm, nx, hmin, hmax, hdr, HP⟩ := pieces (9223372036854775808) (9223372036854775296) (9223372036854776832) (bits BinOp.and IntKind.i64 4503599627370496 1) ⟨by omega, by omega⟩ (⟨by omega, by omega⟩) (⟨by omega, by omega⟩) (p10 i).1 (p10 i).2 (ten_lt i).1 (ten_lt i).2 s hs2
  have hi6 : i < 696 := by omega
  have hiP : P = (i : Int) - 348 := by omega
  have hPS : ∀ (B : Nat) (ea : Addr) (w : World), Gp B ea w → Calls Tryz.prog 156 #[.pointer (some ⟨w.heap.size, 0, none⟩), .int .i64 e, .int .i64 P, .int .i64 (P * 108853 / 32768)] (w.alloc (.cells #[.int .u64 0, .int .u64 0, .int .i64 0] 307)) fun ε w' => ε = .returned (.tuple #[]) ∧ w'.heap[w.heap.size]? = some (.cells #[.int .u64 (p10 i).1, .int .u64 (p10 i).2, .int .i64 s] 307 (0, 0)) ∧ Fr [] w w' := by
    intro B ea w hG
    have h9 : 14 ≤ w.heap.size := Nat.le_trans (by have := hG.low2; omega) hG.big
    have hp := prescale_any (B := B) (ea := ea) w.heap.size i hi6 e (P * 108853 / 32768) (by omega) (by omega) (by omega) (by omega) 0 0 0 (w.alloc (.cells #[.int .u64 0, .int .u64 0, .int .i64 0] 307)) (hG.fr ((Fr.refl [] w).alloc _) (by simp)) h9 (MapKept.heap_alloc w _).1
    rw [← hs, ← hiP] at hp
    refine hp.mono ?_
    rintro ε w' ⟨h1, h2, h3⟩
    exact ⟨h1, h2, ((Fr.refl [] w).alloc _).step h3 (by simp)⟩
  have HPS := Lib.hid hPS
  have KP := Lib.hid HP
  have EP := Lib.hid hP
  clear hPS HP hiP hi hs hs2 hi6 hP
  refine ⟨if dmin ≤ dmax / 10 * 10 then dmax / 10 else if dmin < dmax then dr else dmin, if dmin ≤ dmax / 10 * 10 then -(P - 1) else -P, ?_, fun B ea w hG => ?_⟩
  · clear HPS KP EP
    split
    · omega
    · split <;> omega
  · have HG := Lib.hid hG
    clear hG hmin hdr
    go_enter Tryz.func136, Tryz.ntmps136
    go_upto_region 27 with (first
      | (go_at_call 155; refine (skew_any _ (by omega) (by omega) _).mono ?_; rintro ε w1 ⟨rfl, rfl⟩)
      | (go_at_call 131; refine (l10_any _ (by omega) (by omega) _).mono ?_; rintro ε w1 ⟨rfl, rfl⟩))
    rw [← EP.out]
    go_upto_if 118 with (first
      | (go_at_call 157; refine (l2_any _ (by omega) (by omega) _).mono ?_; rintro ε w2 ⟨rfl, rfl⟩)
      | (go_at_call 156; refine (HPS.out _ _ _ HG.out).mono ?_; rintro ε w3 ⟨rfl, hr3, hf3⟩; have R3 := Lib.hid hr3; have F3 := Lib.hid hf3; clear hr3 hf3)
      | (go_at_call_has 158 (Value.int .u64 (9223372036854775296)); refine (KP.out.a1 _ _ R3.out).mono ?_; rintro ε w4 ⟨rfl, hf4⟩; have R4 := Lib.hid (hf4.blk R3.out (by simp)); have F4 := Lib.hid (F3.out.trans hf4); clear hf4)
      | (go_at_call_has 159 (Value.int .u64 um); refine (KP.out.a2 _).mono ?_; rintro ε w5 ⟨rfl, rfl⟩)
      | (go_at_call 160; refine (KP.out.a3 _).mono ?_; rintro ε w6 ⟨rfl, rfl⟩)
      | (go_at_call_has 158 (Value.int .u64 (9223372036854776832)); refine (KP.out.b1 _ _ R4.out).mono ?_; rintro ε w7 ⟨rfl, hf7⟩; have R7 := Lib.hid (hf7.blk R4.out (by simp)); have F7 := Lib.hid (F4.out.trans hf7); clear hf7)
      | (go_at_call_has 159 (Value.int .u64 ux); refine (KP.out.b2 _).mono ?_; rintro ε w8 ⟨rfl, rfl⟩)
      | (go_at_call 161; refine (KP.out.b3 _).mono ?_; rintro ε w9 ⟨rfl, rfl⟩))
    by_cases hD : dmin ≤ dmax / 10 * 10
    · have j1 : decide (dmax / 10 * 10 ≥ dmin) = true := decide_eq_true hD
      go_wp2_with fail
      go_ret2
      first
        | exact ⟨rfl, F7.out⟩
        | exact ⟨by rw [if_pos (by omega), if_pos (by omega)], F7.out⟩
    · have j1 : decide (dmax / 10 * 10 ≥ dmin) = false := decide_eq_false hD
      by_cases hE : dmin < dmax
      · have j2 : decide (dmin < dmax) = true := decide_eq_true hE
        go_wp2_with (first
          | (go_at_call 158; refine (KP.out.c1 _ _ R7.out).mono ?_; rintro ε w10 ⟨rfl, hf10⟩; have F10 := Lib.hid (F7.out.trans hf10); clear hf10)
          | (go_at_call 162; refine (KP.out.c2 _).mono ?_; rintro ε w11 ⟨rfl, rfl⟩))
        go_ret2
        first
          | exact ⟨rfl, F10.out⟩
          | exact ⟨by rw [if_neg (by omega), if_neg (by omega), if_pos (by omega)], F10.out⟩
      · have j2 : decide (dmin < dmax) = false := decide_eq_false hE
        go_wp2_with fail
        go_ret2
        first
          | exact ⟨rfl, F7.out⟩
          | exact ⟨by rw [if_neg (by omega), if_neg (by omega), if_neg (by omega)], F7.out⟩
set_option maxRecDepth 100000 in
set_option maxHeartbeats 4000000 in
theorem short_B (e : Int) (he0 : -1085 ≤ e) (he1 : e ≤ -1085) : ∃ d p : Int, (0 ≤ d ∧ d < 18446744073709551616 ∧ -500 ≤ p ∧ p ≤ 500) ∧ ∀ (B : Nat) (ea : Addr) (w : World), Gp B ea w → Calls Tryz.prog 136 #[.int .u64 9223372036854775808, .int .i64 e] w fun ε w' => ε = .returned (.tuple #[.int .u64 d, .int .i64 p]) ∧ Fr [] w w' := by
  have k1 : decide (e > -1085) = false := decide_eq_false (by omega)
  have k2 : decide (e ≥ -1085) = true := decide_eq_true (by omega)
  obtain ⟨i, hi⟩ : ∃ i : Nat, (i : Int) = (-((e + 11) * 78913 / 262144)) + 348 := ⟨((-((e + 11) * 78913 / 262144)) + 348).toNat, Int.toNat_of_nonneg (by omega)⟩
  obtain ⟨P, hP⟩ : ∃ P : Int, P = (-((e + 11) * 78913 / 262144)) := ⟨_, rfl⟩
  have hPr : -400 ≤ P ∧ P ≤ 398 := by omega
  obtain ⟨s, hs⟩ : ∃ s : Int, s = -(e + P * 108853 / 32768 + 3) := ⟨_, rfl⟩
  have hs2 : 0 ≤ s ∧ s < 64 := by omega
  obtain ⟨dmin, dmax, dr, um, ux, uu, nm, nx, hmin, hmax, hdr, HP⟩ := pieces (9223372036854775808) (9223372036854774784) (9223372036854776832) (bits BinOp.and IntKind.i64 4503599627370496 1) ⟨by omega, by omega⟩ (⟨by omega, by omega⟩) (⟨by omega, by omega⟩) (p10 i).1 (p10 i).2 (ten_lt i).1 (ten_lt i).2 s hs2
  have hi6 : i < 696 := by omega
  have hiP : P = (i : Int) - 348 := by omega
  have hPS : ∀ (B : Nat) (ea : Addr) (w : World), Gp B ea w → Calls Tryz.prog 156 #[.pointer (some ⟨w.heap.size, 0, none⟩), .int .i64 e, .int .i64 P, .int .i64 (P * 108853 / 32768)] (w.alloc (.cells #[.int .u64 0, .int .u64 0, .int .i64 0] 307)) fun ε w' => ε = .returned (.tuple #[]) ∧ w'.heap[w.heap.size]? = some (.cells #[.int .u64 (p10 i).1, .int .u64 (p10 i).2, .int .i64 s] 307 (0, 0)) ∧ Fr [] w w' := by
    intro B ea w hG
    have h9 : 14 ≤ w.heap.size := Nat.le_trans (by have := hG.low2; omega) hG.big
    have hp := prescale_any (B := B) (ea := ea) w.heap.size i hi6 e (P * 108853 / 32768) (by omega) (by omega) (by omega) (by omega) 0 0 0 (w.alloc (.cells #[.int .u64 0, .int .u64 0, .int .i64 0] 307)) (hG.fr ((Fr.refl [] w).alloc _) (by simp)) h9 (MapKept.heap_alloc w _).1
    rw [← hs, ← hiP] at hp
    refine hp.mono ?_
    rintro ε w' ⟨h1, h2, h3⟩
    exact ⟨h1, h2, ((Fr.refl [] w).alloc _).step h3 (by simp)⟩
  have HPS := Lib.hid hPS
  have KP := Lib.hid HP
  have EP := Lib.hid hP
  clear hPS HP hiP hi hs hs2 hi6 hP
  refine ⟨if dmin ≤ dmax / 10 * 10 then dmax / 10 else if dmin < dmax then dr else dmin, if dmin ≤ dmax / 10 * 10 then -(P - 1) else -P, ?_, fun B ea w hG => ?_⟩
  · clear HPS KP EP
    split
    · omega
    · split <;> omega
  · have HG := Lib.hid hG
    clear hG hmin hdr
    go_enter Tryz.func136, Tryz.ntmps136
    go_upto_region 27 with (first
      | (go_at_call 155; refine (skew_any _ (by omega) (by omega) _).mono ?_; rintro ε w1 ⟨rfl, rfl⟩)
      | (go_at_call 131; refine (l10_any _ (by omega) (by omega) _).mono ?_; rintro ε w1 ⟨rfl, rfl⟩))
    rw [← EP.out]
    go_upto_if 118 with (first
      | (go_at_call 157; refine (l2_any _ (by omega) (by omega) _).mono ?_; rintro ε w2 ⟨rfl, rfl⟩)
      | (go_at_call 156; refine (HPS.out _ _ _ HG.out).mono ?_; rintro ε w3 ⟨rfl, hr3, hf3⟩; have R3 := Lib.hid hr3; have F3 := Lib.hid hf3; clear hr3 hf3)
      | (go_at_call_has 158 (Value.int .u64 (9223372036854774784)); refine (KP.out.a1 _ _ R3.out).mono ?_; rintro ε w4 ⟨rfl, hf4⟩; have R4 := Lib.hid (hf4.blk R3.out (by simp)); have F4 := Lib.hid (F3.out.trans hf4); clear hf4)
      | (go_at_call_has 159 (Value.int .u64 um); refine (KP.out.a2 _).mono ?_; rintro ε w5 ⟨rfl, rfl⟩)
      | (go_at_call 160; refine (KP.out.a3 _).mono ?_; rintro ε w6 ⟨rfl, rfl⟩)
      | (go_at_call_has 158 (Value.int .u64 (9223372036854776832)); refine (KP.out.b1 _ _ R4.out).mono ?_; rintro ε w7 ⟨rfl, hf7⟩; have R7 := Lib.hid (hf7.blk R4.out (by simp)); have F7 := Lib.hid (F4.out.trans hf7); clear hf7)
      | (go_at_call_has 159 (Value.int .u64 ux); refine (KP.out.b2 _).mono ?_; rintro ε w8 ⟨rfl, rfl⟩)
      | (go_at_call 161; refine (KP.out.b3 _).mono ?_; rintro ε w9 ⟨rfl, rfl⟩))
    by_cases hD : dmin ≤ dmax / 10 * 10
    · have j1 : decide (dmax / 10 * 10 ≥ dmin) = true := decide_eq_true hD
      go_wp2_with fail
      go_ret2
      first
        | exact ⟨rfl, F7.out⟩
        | exact ⟨by rw [if_pos (by omega), if_pos (by omega)], F7.out⟩
    · have j1 : decide (dmax / 10 * 10 ≥ dmin) = false := decide_eq_false hD
      by_cases hE : dmin < dmax
      · have j2 : decide (dmin < dmax) = true := decide_eq_true hE
        go_wp2_with (first
          | (go_at_call 158; refine (KP.out.c1 _ _ R7.out).mono ?_; rintro ε w10 ⟨rfl, hf10⟩; have F10 := Lib.hid (F7.out.trans hf10); clear hf10)
          | (go_at_call 162; refine (KP.out.c2 _).mono ?_; rintro ε w11 ⟨rfl, rfl⟩))
        go_ret2
        first
          | exact ⟨rfl, F10.out⟩
          | exact ⟨by rw [if_neg (by omega), if_neg (by omega), if_pos (by omega)], F10.out⟩
      · have j2 : decide (dmin < dmax) = false := decide_eq_false hE
        go_wp2_with fail
        go_ret2
        first
          | exact ⟨rfl, F7.out⟩
          | exact ⟨by rw [if_neg (by omega), if_neg (by omega), if_neg (by omega)], F7.out⟩
set_option maxRecDepth 100000 in
set_option maxHeartbeats 4000000 in
theorem short_C (m : Int) (hm0 : 9223372036854775808 ≤ m) (hm1 : m < 18446744073709551616) (hm : m ≠ 9223372036854775808) (e : Int) (he0 : -1085 ≤ e) (he1 : e ≤ 960) : ∃ d p : Int, (0 ≤ d ∧ d < 18446744073709551616 ∧ -500 ≤ p ∧ p ≤ 500) ∧ ∀ (B : Nat) (ea : Addr) (w : World), Gp B ea w → Calls Tryz.prog 136 #[.int .u64 m, .int .i64 e] w fun ε w' => ε = .returned (.tuple #[.int .u64 d, .int .i64 p]) ∧ Fr [] w w' := by
  have k2 : decide (e ≥ -1085) = true := decide_eq_true he0
  have k1 : (m == 9223372036854775808) = false := by simpa using hm
  obtain ⟨i, hi⟩ : ∃ i : Nat, (i : Int) = (-((e + 11) * 78913 / 262144)) + 348 := ⟨((-((e + 11) * 78913 / 262144)) + 348).toNat, Int.toNat_of_nonneg (by omega)⟩
  obtain ⟨P, hP⟩ : ∃ P : Int, P = (-((e + 11) * 78913 / 262144)) := ⟨_, rfl⟩
  have hPr : -400 ≤ P ∧ P ≤ 398 := by omega
  obtain ⟨s, hs⟩ : ∃ s : Int, s = -(e + P * 108853 / 32768 + 3) := ⟨_, rfl⟩
  have hs2 : 0 ≤ s ∧ s < 64 := by omega
  obtain ⟨dmin, dmax, dr, um, ux, uu, nm, nx, hmin, hmax, hdr, HP⟩ := pieces (m) (m - 1024) (IntKind.u64.wrap (m + 1024)) (bits BinOp.and IntKind.i64 (m / 2048) 1) ⟨by omega, by omega⟩ (⟨by omega, by omega⟩) (wrap_u64_ok _) (p10 i).1 (p10 i).2 (ten_lt i).1 (ten_lt i).2 s hs2
  have hi6 : i < 696 := by omega
  have hiP : P = (i : Int) - 348 := by omega
  have hPS : ∀ (B : Nat) (ea : Addr) (w : World), Gp B ea w → Calls Tryz.prog 156 #[.pointer (some ⟨w.heap.size, 0, none⟩), .int .i64 e, .int .i64 P, .int .i64 (P * 108853 / 32768)] (w.alloc (.cells #[.int .u64 0, .int .u64 0, .int .i64 0] 307)) fun ε w' => ε = .returned (.tuple #[]) ∧ w'.heap[w.heap.size]? = some (.cells #[.int .u64 (p10 i).1, .int .u64 (p10 i).2, .int .i64 s] 307 (0, 0)) ∧ Fr [] w w' := by
    intro B ea w hG
    have h9 : 14 ≤ w.heap.size := Nat.le_trans (by have := hG.low2; omega) hG.big
    have hp := prescale_any (B := B) (ea := ea) w.heap.size i hi6 e (P * 108853 / 32768) (by omega) (by omega) (by omega) (by omega) 0 0 0 (w.alloc (.cells #[.int .u64 0, .int .u64 0, .int .i64 0] 307)) (hG.fr ((Fr.refl [] w).alloc _) (by simp)) h9 (MapKept.heap_alloc w _).1
    rw [← hs, ← hiP] at hp
    refine hp.mono ?_
    rintro ε w' ⟨h1, h2, h3⟩
    exact ⟨h1, h2, ((Fr.refl [] w).alloc _).step h3 (by simp)⟩
  have HPS := Lib.hid hPS
  have KP := Lib.hid HP
  have EP := Lib.hid hP
  clear hPS HP hiP hi hs hs2 hi6 hP
  refine ⟨if dmin ≤ dmax / 10 * 10 then dmax / 10 else if dmin < dmax then dr else dmin, if dmin ≤ dmax / 10 * 10 then -(P - 1) else -P, ?_, fun B ea w hG => ?_⟩
  · clear HPS KP EP
    split
    · omega
    · split <;> omega
  · have HG := Lib.hid hG
    clear hG hmin hdr
    go_enter Tryz.func136, Tryz.ntmps136
    go_upto_region 27 with (first
      | (go_at_call 155; refine (skew_any _ (by omega) (by omega) _).mono ?_; rintro ε w1 ⟨rfl, rfl⟩)
      | (go_at_call 131; refine (l10_any _ (by omega) (by omega) _).mono ?_; rintro ε w1 ⟨rfl, rfl⟩))
    rw [← EP.out]
    go_upto_if 118 with (first
      | (go_at_call 157; refine (l2_any _ (by omega) (by omega) _).mono ?_; rintro ε w2 ⟨rfl, rfl⟩)
      | (go_at_call 156; refine (HPS.out _ _ _ HG.out).mono ?_; rintro ε w3 ⟨rfl, hr3, hf3⟩; have R3 := Lib.hid hr3; have F3 := Lib.hid hf3; clear hr3 hf3)
      | (go_at_call_has 158 (Value.int .u64 (m - 1024)); refine (KP.out.a1 _ _ R3.out).mono ?_; rintro ε w4 ⟨rfl, hf4⟩; have R4 := Lib.hid (hf4.blk R3.out (by simp)); have F4 := Lib.hid (F3.out.trans hf4); clear hf4)
      | (go_at_call_has 159 (Value.int .u64 um); refine (KP.out.a2 _).mono ?_; rintro ε w5 ⟨rfl, rfl⟩)
      | (go_at_call 160; refine (KP.out.a3 _).mono ?_; rintro ε w6 ⟨rfl, rfl⟩)
      | (go_at_call_has 158 (Value.int .u64 (IntKind.u64.wrap (m + 1024))); refine (KP.out.b1 _ _ R4.out).mono ?_; rintro ε w7 ⟨rfl, hf7⟩; have R7 := Lib.hid (hf7.blk R4.out (by simp)); have F7 := Lib.hid (F4.out.trans hf7); clear hf7)
      | (go_at_call_has 159 (Value.int .u64 ux); refine (KP.out.b2 _).mono ?_; rintro ε w8 ⟨rfl, rfl⟩)
      | (go_at_call 161; refine (KP.out.b3 _).mono ?_; rintro ε w9 ⟨rfl, rfl⟩))
    by_cases hD : dmin ≤ dmax / 10 * 10
    · have j1 : decide (dmax / 10 * 10 ≥ dmin) = true := decide_eq_true hD
      go_wp2_with fail
      go_ret2
      first
        | exact ⟨rfl, F7.out⟩
        | exact ⟨by rw [if_pos (by omega), if_pos (by omega)], F7.out⟩
    · have j1 : decide (dmax / 10 * 10 ≥ dmin) = false := decide_eq_false hD
      by_cases hE : dmin < dmax
      · have j2 : decide (dmin < dmax) = true := decide_eq_true hE
        go_wp2_with (first
          | (go_at_call 158; refine (KP.out.c1 _ _ R7.out).mono ?_; rintro ε w10 ⟨rfl, hf10⟩; have F10 := Lib.hid (F7.out.trans hf10); clear hf10)
          | (go_at_call 162; refine (KP.out.c2 _).mono ?_; rintro ε w11 ⟨rfl, rfl⟩))
        go_ret2
        first
          | exact ⟨rfl, F10.out⟩
          | exact ⟨by rw [if_neg (by omega), if_neg (by omega), if_pos (by omega)], F10.out⟩
      · have j2 : decide (dmin < dmax) = false := decide_eq_false hE
        go_wp2_with fail
        go_ret2
        first
          | exact ⟨rfl, F7.out⟩
          | exact ⟨by rw [if_neg (by omega), if_neg (by omega), if_neg (by omega)], F7.out⟩
set_option maxRecDepth 100000 in
set_option maxHeartbeats 4000000 in
theorem short_D (e : Int) (he0 : -1137 ≤ e) (he1 : e < -1085) : ∃ d p : Int, (0 ≤ d ∧ d < 18446744073709551616 ∧ -500 ≤ p ∧ p ≤ 500) ∧ ∀ (B : Nat) (ea : Addr) (w : World), Gp B ea w → Calls Tryz.prog 136 #[.int .u64 9223372036854775808, .int .i64 e] w fun ε w' => ε = .returned (.tuple #[.int .u64 d, .int .i64 p]) ∧ Fr [] w w' := by
  have k2 : decide (e ≥ -1085) = false := decide_eq_false (by omega)
  have k1 : decide (e > -1085) = false := decide_eq_false (by omega)
  obtain ⟨i, hi⟩ : ∃ i : Nat, (i : Int) = (-((e + (11 + (-1085 - e))) * 78913 / 262144)) + 348 := ⟨((-((e + (11 + (-1085 - e))) * 78913 / 262144)) + 348).toNat, Int.toNat_of_nonneg (by omega)⟩
  obtain ⟨P, hP⟩ : ∃ P : Int, P = (-((e + (11 + (-1085 - e))) * 78913 / 262144)) := ⟨_, rfl⟩
  have hPr : -400 ≤ P ∧ P ≤ 398 := by omega
  obtain ⟨s, hs⟩ : ∃ s : Int, s = -(e + P * 108853 / 32768 + 3) := ⟨_, rfl⟩
  have hs2 : 0 ≤ s ∧ s < 64 := by omega
  obtain ⟨dmin, dmax, dr, um, ux, uu, nm, nx, hmin, hmax, hdr, HP⟩ := pieces (9223372036854775808) ((IntKind.u64.wrap (9223372036854775808 - IntKind.u64.wrap (2 ^ ((11 + (-1085 - e)).toNat - 1))))) ((IntKind.u64.wrap (9223372036854775808 + IntKind.u64.wrap (2 ^ ((11 + (-1085 - e)).toNat - 1))))) ((bits BinOp.and IntKind.i64 (wrap64 (9223372036854775808 / 2 ^ (11 + (-1085 - e)).toNat)) 1)) ⟨by omega, by omega⟩ (wrap_u64_ok _) (wrap_u64_ok _) (p10 i).1 (p10 i).2 (ten_lt i).1 (ten_lt i).2 s hs2
  have hi6 : i < 696 := by omega
  have hiP : P = (i : Int) - 348 := by omega
  have hPS : ∀ (B : Nat) (ea : Addr) (w : World), Gp B ea w → Calls Tryz.prog 156 #[.pointer (some ⟨w.heap.size, 0, none⟩), .int .i64 e, .int .i64 P, .int .i64 (P * 108853 / 32768)] (w.alloc (.cells #[.int .u64 0, .int .u64 0, .int .i64 0] 307)) fun ε w' => ε = .returned (.tuple #[]) ∧ w'.heap[w.heap.size]? = some (.cells #[.int .u64 (p10 i).1, .int .u64 (p10 i).2, .int .i64 s] 307 (0, 0)) ∧ Fr [] w w' := by
    intro B ea w hG
    have h9 : 14 ≤ w.heap.size := Nat.le_trans (by have := hG.low2; omega) hG.big
    have hp := prescale_any (B := B) (ea := ea) w.heap.size i hi6 e (P * 108853 / 32768) (by omega) (by omega) (by omega) (by omega) 0 0 0 (w.alloc (.cells #[.int .u64 0, .int .u64 0, .int .i64 0] 307)) (hG.fr ((Fr.refl [] w).alloc _) (by simp)) h9 (MapKept.heap_alloc w _).1
    rw [← hs, ← hiP] at hp
    refine hp.mono ?_
    rintro ε w' ⟨h1, h2, h3⟩
    exact ⟨h1, h2, ((Fr.refl [] w).alloc _).step h3 (by simp)⟩
  have HPS := Lib.hid hPS
  have KP := Lib.hid HP
  have EP := Lib.hid hP
  clear hPS HP hiP hi hs hs2 hi6 hP
  refine ⟨if dmin ≤ dmax / 10 * 10 then dmax / 10 else if dmin < dmax then dr else dmin, if dmin ≤ dmax / 10 * 10 then -(P - 1) else -P, ?_, fun B ea w hG => ?_⟩
  · clear HPS KP EP
    split
    · omega
    · split <;> omega
  · have HG := Lib.hid hG
    clear hG hmin hdr
    go_enter Tryz.func136, Tryz.ntmps136
    go_upto_region 27 with (first
      | (go_at_call 155; refine (skew_any _ (by omega) (by omega) _).mono ?_; rintro ε w1 ⟨rfl, rfl⟩)
      | (go_at_call 131; refine (l10_any _ (by omega) (by omega) _).mono ?_; rintro ε w1 ⟨rfl, rfl⟩))
    rw [← EP.out]
    go_upto_if 118 with (first
      | (go_at_call 157; refine (l2_any _ (by omega) (by omega) _).mono ?_; rintro ε w2 ⟨rfl, rfl⟩)
      | (go_at_call 156; refine (HPS.out _ _ _ HG.out).mono ?_; rintro ε w3 ⟨rfl, hr3, hf3⟩; have R3 := Lib.hid hr3; have F3 := Lib.hid hf3; clear hr3 hf3)
      | (go_at_call_has 158 (Value.int .u64 ((IntKind.u64.wrap (9223372036854775808 - IntKind.u64.wrap (2 ^ ((11 + (-1085 - e)).toNat - 1)))))); refine (KP.out.a1 _ _ R3.out).mono ?_; rintro ε w4 ⟨rfl, hf4⟩; have R4 := Lib.hid (hf4.blk R3.out (by simp)); have F4 := Lib.hid (F3.out.trans hf4); clear hf4)
      | (go_at_call_has 159 (Value.int .u64 um); refine (KP.out.a2 _).mono ?_; rintro ε w5 ⟨rfl, rfl⟩)
      | (go_at_call 160; refine (KP.out.a3 _).mono ?_; rintro ε w6 ⟨rfl, rfl⟩)
      | (go_at_call_has 158 (Value.int .u64 ((IntKind.u64.wrap (9223372036854775808 + IntKind.u64.wrap (2 ^ ((11 + (-1085 - e)).toNat - 1)))))); refine (KP.out.b1 _ _ R4.out).mono ?_; rintro ε w7 ⟨rfl, hf7⟩; have R7 := Lib.hid (hf7.blk R4.out (by simp)); have F7 := Lib.hid (F4.out.trans hf7); clear hf7)
      | (go_at_call_has 159 (Value.int .u64 ux); refine (KP.out.b2 _).mono ?_; rintro ε w8 ⟨rfl, rfl⟩)
      | (go_at_call 161; refine (KP.out.b3 _).mono ?_; rintro ε w9 ⟨rfl, rfl⟩))
    by_cases hD : dmin ≤ dmax / 10 * 10
    · have j1 : decide (dmax / 10 * 10 ≥ dmin) = true := decide_eq_true hD
      go_wp2_with fail
      go_ret2
      first
        | exact ⟨rfl, F7.out⟩
        | exact ⟨by rw [if_pos (by omega), if_pos (by omega)], F7.out⟩
    · have j1 : decide (dmax / 10 * 10 ≥ dmin) = false := decide_eq_false hD
      by_cases hE : dmin < dmax
      · have j2 : decide (dmin < dmax) = true := decide_eq_true hE
        go_wp2_with (first
          | (go_at_call 158; refine (KP.out.c1 _ _ R7.out).mono ?_; rintro ε w10 ⟨rfl, hf10⟩; have F10 := Lib.hid (F7.out.trans hf10); clear hf10)
          | (go_at_call 162; refine (KP.out.c2 _).mono ?_; rintro ε w11 ⟨rfl, rfl⟩))
        go_ret2
        first
          | exact ⟨rfl, F10.out⟩
          | exact ⟨by rw [if_neg (by omega), if_neg (by omega), if_pos (by omega)], F10.out⟩
      · have j2 : decide (dmin < dmax) = false := decide_eq_false hE
        go_wp2_with fail
        go_ret2
        first
          | exact ⟨rfl, F7.out⟩
          | exact ⟨by rw [if_neg (by omega), if_neg (by omega), if_neg (by omega)], F7.out⟩
set_option maxRecDepth 100000 in
set_option maxHeartbeats 4000000 in
theorem short_E (m : Int) (hm0 : 9223372036854775808 ≤ m) (hm1 : m < 18446744073709551616) (hm : m ≠ 9223372036854775808) (e : Int) (he0 : -1137 ≤ e) (he1 : e < -1085) : ∃ d p : Int, (0 ≤ d ∧ d < 18446744073709551616 ∧ -500 ≤ p ∧ p ≤ 500) ∧ ∀ (B : Nat) (ea : Addr) (w : World), Gp B ea w → Calls Tryz.prog 136 #[.int .u64 m, .int .i64 e] w fun ε w' => ε = .returned (.tuple #[.int .u64 d, .int .i64 p]) ∧ Fr [] w w' := by
  have k2 : decide (e ≥ -1085) = false := decide_eq_false (by omega)
  have k1 : (m == 9223372036854775808) = false := by simpa using hm
  obtain ⟨i, hi⟩ : ∃ i : Nat, (i : Int) = (-((e + (11 + (-1085 - e))) * 78913 / 262144)) + 348 := ⟨((-((e + (11 + (-1085 - e))) * 78913 / 262144)) + 348).toNat, Int.toNat_of_nonneg (by omega)⟩
  obtain ⟨P, hP⟩ : ∃ P : Int, P = (-((e + (11 + (-1085 - e))) * 78913 / 262144)) := ⟨_, rfl⟩
  have hPr : -400 ≤ P ∧ P ≤ 398 := by omega
  obtain ⟨s, hs⟩ : ∃ s : Int, s = -(e + P * 108853 / 32768 + 3) := ⟨_, rfl⟩
  have hs2 : 0 ≤ s ∧ s < 64 := by omega
  obtain ⟨dmin, dmax, dr, um, ux, uu, nm, nx, hmin, hmax, hdr, HP⟩ := pieces (m) ((IntKind.u64.wrap (m - IntKind.u64.wrap (2 ^ ((11 + (-1085 - e)).toNat - 1))))) ((IntKind.u64.wrap (m + IntKind.u64.wrap (2 ^ ((11 + (-1085 - e)).toNat - 1))))) ((bits BinOp.and IntKind.i64 (wrap64 (m / 2 ^ (11 + (-1085 - e)).toNat)) 1)) ⟨by omega, by omega⟩ (wrap_u64_ok _) (wrap_u64_ok _) (p10 i).1 (p10 i).2 (ten_lt i).1 (ten_lt i).2 s hs2
  have hi6 : i < 696 := by omega
  have hiP : P = (i : Int) - 348 := by omega
  have hPS : ∀ (B : Nat) (ea : Addr) (w : World), Gp B ea w → Calls Tryz.prog 156 #[.pointer (some ⟨w.heap.size, 0, none⟩), .int .i64 e, .int .i64 P, .int .i64 (P * 108853 / 32768)] (w.alloc (.cells #[.int .u64 0, .int .u64 0, .int .i64 0] 307)) fun ε w' => ε = .returned (.tuple #[]) ∧ w'.heap[w.heap.size]? = some (.cells #[.int .u64 (p10 i).1, .int .u64 (p10 i).2, .int .i64 s] 307 (0, 0)) ∧ Fr [] w w' := by
    intro B ea w hG
    have h9 : 14 ≤ w.heap.size := Nat.le_trans (by have := hG.low2; omega) hG.big
    have hp := prescale_any (B := B) (ea := ea) w.heap.size i hi6 e (P * 108853 / 32768) (by omega) (by omega) (by omega) (by omega) 0 0 0 (w.alloc (.cells #[.int .u64 0, .int .u64 0, .int .i64 0] 307)) (hG.fr ((Fr.refl [] w).alloc _) (by simp)) h9 (MapKept.heap_alloc w _).1
    rw [← hs, ← hiP] at hp
    refine hp.mono ?_
    rintro ε w' ⟨h1, h2, h3⟩
    exact ⟨h1, h2, ((Fr.refl [] w).alloc _).step h3 (by simp)⟩
  have HPS := Lib.hid hPS
  have KP := Lib.hid HP
  have EP := Lib.hid hP
  clear hPS HP hiP hi hs hs2 hi6 hP
  refine ⟨if dmin ≤ dmax / 10 * 10 then dmax / 10 else if dmin < dmax then dr else dmin, if dmin ≤ dmax / 10 * 10 then -(P - 1) else -P, ?_, fun B ea w hG => ?_⟩
  · clear HPS KP EP
    split
    · omega
    · split <;> omega
  · have HG := Lib.hid hG
    clear hG hmin hdr
    go_enter Tryz.func136, Tryz.ntmps136
    go_upto_region 27 with (first
      | (go_at_call 155; refine (skew_any _ (by omega) (by omega) _).mono ?_; rintro ε w1 ⟨rfl, rfl⟩)
      | (go_at_call 131; refine (l10_any _ (by omega) (by omega) _).mono ?_; rintro ε w1 ⟨rfl, rfl⟩))
    rw [← EP.out]
    go_upto_if 118 with (first
      | (go_at_call 157; refine (l2_any _ (by omega) (by omega) _).mono ?_; rintro ε w2 ⟨rfl, rfl⟩)
      | (go_at_call 156; refine (HPS.out _ _ _ HG.out).mono ?_; rintro ε w3 ⟨rfl, hr3, hf3⟩; have R3 := Lib.hid hr3; have F3 := Lib.hid hf3; clear hr3 hf3)
      | (go_at_call_has 158 (Value.int .u64 ((IntKind.u64.wrap (m - IntKind.u64.wrap (2 ^ ((11 + (-1085 - e)).toNat - 1)))))); refine (KP.out.a1 _ _ R3.out).mono ?_; rintro ε w4 ⟨rfl, hf4⟩; have R4 := Lib.hid (hf4.blk R3.out (by simp)); have F4 := Lib.hid (F3.out.trans hf4); clear hf4)
      | (go_at_call_has 159 (Value.int .u64 um); refine (KP.out.a2 _).mono ?_; rintro ε w5 ⟨rfl, rfl⟩)
      | (go_at_call 160; refine (KP.out.a3 _).mono ?_; rintro ε w6 ⟨rfl, rfl⟩)
      | (go_at_call_has 158 (Value.int .u64 ((IntKind.u64.wrap (m + IntKind.u64.wrap (2 ^ ((11 + (-1085 - e)).toNat - 1)))))); refine (KP.out.b1 _ _ R4.out).mono ?_; rintro ε w7 ⟨rfl, hf7⟩; have R7 := Lib.hid (hf7.blk R4.out (by simp)); have F7 := Lib.hid (F4.out.trans hf7); clear hf7)
      | (go_at_call_has 159 (Value.int .u64 ux); refine (KP.out.b2 _).mono ?_; rintro ε w8 ⟨rfl, rfl⟩)
      | (go_at_call 161; refine (KP.out.b3 _).mono ?_; rintro ε w9 ⟨rfl, rfl⟩))
    by_cases hD : dmin ≤ dmax / 10 * 10
    · have j1 : decide (dmax / 10 * 10 ≥ dmin) = true := decide_eq_true hD
      go_wp2_with fail
      go_ret2
      first
        | exact ⟨rfl, F7.out⟩
        | exact ⟨by rw [if_pos (by omega), if_pos (by omega)], F7.out⟩
    · have j1 : decide (dmax / 10 * 10 ≥ dmin) = false := decide_eq_false hD
      by_cases hE : dmin < dmax
      · have j2 : decide (dmin < dmax) = true := decide_eq_true hE
        go_wp2_with (first
          | (go_at_call 158; refine (KP.out.c1 _ _ R7.out).mono ?_; rintro ε w10 ⟨rfl, hf10⟩; have F10 := Lib.hid (F7.out.trans hf10); clear hf10)
          | (go_at_call 162; refine (KP.out.c2 _).mono ?_; rintro ε w11 ⟨rfl, rfl⟩))
        go_ret2
        first
          | exact ⟨rfl, F10.out⟩
          | exact ⟨by rw [if_neg (by omega), if_neg (by omega), if_pos (by omega)], F10.out⟩
      · have j2 : decide (dmin < dmax) = false := decide_eq_false hE
        go_wp2_with fail
        go_ret2
        first
          | exact ⟨rfl, F7.out⟩
          | exact ⟨by rw [if_neg (by omega), if_neg (by omega), if_neg (by omega)], F7.out⟩
theorem short_ex (m : Nat) (hm0 : 9223372036854775808 ≤ m) (hm1 : m < 18446744073709551616) (e : Int) (he0 : -1137 ≤ e) (he1 : e ≤ 960) : ∃ d p : Int, (0 ≤ d ∧ d < 18446744073709551616 ∧ -500 ≤ p ∧ p ≤ 500) ∧ ∀ (B : Nat) (ea : Addr) (w : World), Gp B ea w → Calls Tryz.prog 136 #[.int .u64 m, .int .i64 e] w fun ε w' => ε = .returned (.tuple #[.int .u64 d, .int .i64 p]) ∧ Fr [] w w' := by
  by_cases hm : m = 9223372036854775808
  · subst hm
    by_cases h1 : -1085 < e
    · exact short_A e h1 he1
    · by_cases h2 : e = -1085
      · exact short_B e (by omega) (by omega)
      · exact short_D e he0 (by omega)
  · by_cases h1 : -1085 ≤ e
    · exact short_C m (by omega) (by omega) (by omega) e h1 he1
    · exact short_E m (by omega) (by omega) (by omega) e he0 (by omega)
end Go.Proofs.YtpkkgngpjeoffaaGreatDoor
namespace Go.Proofs.YtpkkgngpjeoffaaGreatDoor
open Go.RowKit Go.Sort Go.Lib

/-- The digits of d, d = 0 having none. -/
def nD (d : Nat) : Nat := if d = 0 then 0 else nDigits d
def digs (d : Nat) : List UInt8 := (List.range (nD d)).map fun t => dg d (nD d - 1 - t)
/-- The trailing zeros off. -/
def trimZ (l : List UInt8) : List UInt8 := (l.reverse.dropWhile (· == 48)).reverse
def dig (d : Nat) : List UInt8 := trimZ (digs d)
theorem digs_length (d : Nat) : (digs d).length = nD d := by simp [digs]
theorem nD_le (d : Nat) (hd : d < 18446744073709551616) : nD d ≤ 20 := by
  unfold nD
  split
  · omega
  · exact nDigits_le20 d hd
theorem lt_nD (d : Nat) : d < 10 ^ nD d := by
  unfold nD
  split
  · next h => subst h; decide
  · exact lt_pow_nDigits d
theorem trimZ_zero (l : List UInt8) : trimZ (l ++ [48]) = trimZ l := by simp [trimZ]
theorem trimZ_other (l : List UInt8) (c : UInt8) (h : c ≠ 48) : trimZ (l ++ [c]) = l ++ [c] := by simp [trimZ, h]
theorem trimZ_nil : trimZ [] = [] := rfl
theorem trimZ_prefix (l : List UInt8) : ∃ m, l = trimZ l ++ m := by
  refine ⟨(l.reverse.takeWhile (· == 48)).reverse, ?_⟩
  unfold trimZ
  rw [← List.reverse_append, List.takeWhile_append_dropWhile, List.reverse_reverse]
theorem dig_length_le (d : Nat) : (dig d).length ≤ nD d := by
  obtain ⟨m, hm⟩ := trimZ_prefix (digs d)
  have := congrArg List.length hm
  rw [digs_length, List.length_append] at this
  unfold dig
  omega

theorem Dg.pre {w : World} {g : Nat} {l m : List UInt8} (h : Dg w g l) (hp : ∃ r, l = m ++ r) : Dg w g m := by
  obtain ⟨r, rfl⟩ := hp
  obtain ⟨cs, T, h1, h2, h3⟩ := h
  refine ⟨cs, T, h1, h2, fun i hi => ?_⟩
  rw [h3 i (by simp; omega), List.getElem_append_left hi]
abbrev encB : UInt8 → Value := fun b => Value.int .u8 (b.toNat : Int)
theorem onRow (w : World) (g : Nat) (dk : Array UInt8) (n : Nat) (cs : Array Value) (T : TypeId) (h : w.heap[g]? = some (.cells cs T (0, 0))) :
    ((putRow encB w g 0 dk).drewN n).heap[g]? = some (.cells (putCells encB 0 dk cs) T (0, 0)) := by
  show (mapBlock w g (putCells encB 0 dk)).heap[g]? = _
  simp [mapBlock, Array.getElem?_modify, h, onCells]
theorem fr_putRow (w : World) (g : Nat) (dk : Array UInt8) (n : Nat) : Fr [g] w ((putRow encB w g 0 dk).drewN n) := by
  refine ⟨rfl, rfl, rfl, by simp, fun k hk hs => ?_⟩
  show (mapBlock w g (putCells encB 0 dk)).heap[k]? = _
  have : g ≠ k := fun e => hs (by simp [e])
  simp [mapBlock, Array.getElem?_modify, this]

theorem fmt_any (d : Nat) (hd : d < 18446744073709551616) (g : Nat) (w : World) (cs : Array Value) (T : TypeId) (hg : w.heap[g]? = some (.cells cs T (0, 0))) (hs : cs.size = 32) (hz : ∀ j, j < 32 → cs[j]? = some (.int .u8 0)) :
    Calls Tryz.prog 117 #[.slice (some ⟨g, 0, none⟩) (nD d) 32, .int .u64 d] w fun e w' => e = .returned (.tuple #[]) ∧ Dg w' g (digs d) ∧ Fr [g] w w' := by
  have h20 := nD_le d hd
  have hH : Holds encB w g 0 (Array.replicate (nD d) 0) := fun j hj => by
    rw [Array.size_replicate] at hj
    refine ⟨?_, ?_⟩
    · rw [Nat.zero_add, cell_of_row w g j cs T (0, 0) hg, hz j (by omega)]
      simp [encB, hj]
    · rw [Nat.zero_add]; exact frozen_of_row w g j cs T hg
  have h := Tryz.internal_strconv_formatBase10 g 0 32 d (Array.replicate (nD d) 0) w hH (by rw [Array.size_replicate]; exact lt_nD d) hd (by rw [Array.size_replicate]; omega)
  rw [Array.size_replicate] at h
  refine h.mono ?_
  rintro e w' ⟨rfl, n, v', dk, rfl, hF⟩
  refine ⟨rfl, ⟨_, T, onRow w g dk n cs T hg, by simp [putCells, hs], fun i hi => ?_⟩, fr_putRow w g dk n⟩
  rw [digs_length] at hi
  have h1 := hF.done i (Nat.zero_le _) hi
  have h2 := hF.size
  simp only [putCells, Array.getElem?_mapIdx, hz i (by omega), Option.map_some]
  rw [if_pos (by omega)]
  simp only [Nat.sub_zero, h1]
  simp [bv, encB, digs]

set_option maxRecDepth 100000 in
set_option maxHeartbeats 1000000 in
theorem setDigits_any (d : Nat) (hd : d < 18446744073709551616) (p : Int) (hp0 : -500 ≤ p) (hp1 : p ≤ 500) (g : Nat) (w : World) (cs : Array Value) (T : TypeId) (hg : w.heap[g]? = some (.cells cs T (0, 0))) (hs : cs.size = 32) (hz : ∀ j, j < 32 → cs[j]? = some (.int .u8 0)) :
    Calls Tryz.prog 130 #[.slice (some ⟨g, 0, none⟩) 32 32, .int .u64 d, .int .i64 p, .int .i64 (nD d)] w fun e w' => e = .returned (.tuple #[.int .i64 ((nD d : Int) + p), .int .i64 (dig d).length]) ∧ Dg w' g (dig d) ∧ Fr [g] w w' := by
  have hf := Lib.hid (fmt_any d hd g w cs T hg hs hz)
  have h20 := nD_le d hd
  have HLD := Lib.hid (digs_length d)
  obtain ⟨N, hN⟩ : ∃ N, N = nD d := ⟨_, rfl⟩
  rw [← hN] at hf h20 HLD ⊢
  have HD := Lib.hid hN
  clear hN hg hs hz
  obtain ⟨R, hR⟩ : ∃ R, R = (dig d).length := ⟨_, rfl⟩
  rw [← hR]
  have HR := Lib.hid hR; clear hR
  have h32 : decide ((N : Int) ≤ 32) = true := decide_eq_true (by omega)
  go_enter Tryz.func130, Tryz.ntmps130
  go_wp2_with (go_at_call 117; refine hf.out.mono ?_; rintro e w1 ⟨rfl, hdg, hf1⟩; have HDG := Lib.hid hdg; have HF := Lib.hid hf1; clear hdg hf1)
  go_loopw [3] (fun i wr => ∃ k : Nat, k ≤ N ∧ i = .int .i64 k ∧ Hid (trimZ ((digs d).take k) = dig d) ∧ wr = w1) (fun i _ => (RowKit.intOf i).toNat)
  case atStart => exact ⟨N, Nat.le_refl _, rfl, Lib.hid (by rw [List.take_of_length_le (by rw [HLD.out]; exact Nat.le_refl _)]; rfl), rfl⟩
  case round =>
    obtain ⟨k, hk, rfl, H, rfl⟩ := hrel
    cases k with
    | zero =>
      have hnil : dig d = [] := by have := H.out; simpa [trimZ] using this.symm
      have HNIL := Lib.hid hnil
      have hl0 : R = 0 := by rw [HR.out, hnil]; rfl
      have HL0 := Lib.hid hl0
      clear hnil hl0
      go_wp2_with fail
      go_ret2
      rw [HNIL.out, HL0.out]
      exact ⟨rfl, HDG.out.pre ⟨digs d, rfl⟩, HF.out⟩
    | succ k =>
      have hlt : k < (digs d).length := by rw [HLD.out]; omega
      have hc := HDG.out.cell (i := k) hlt
      obtain ⟨c, hcc⟩ : ∃ c, c = (digs d)[k] := ⟨_, rfl⟩
      have hts : (digs d).take (k + 1) = (digs d).take k ++ [c] := by rw [hcc]; exact List.take_succ_eq_append_getElem _
      have HTS := Lib.hid hts
      rw [← hcc] at hc
      by_cases h48 : c = 48
      · have hc2 : wr.cell? ⟨g, k, none⟩ = some (.int .u8 48) := by rw [hc, h48]; rfl
        clear hc hts hlt hcc
        go_wp2_with fail
        go_roundw
        case rel => exact ⟨k, by omega, by go_num, Lib.hid (by have := H.out; rw [HTS.out, h48, trimZ_zero] at this; exact this), trivial⟩
        case measure => simp [RowKit.intOf]; try omega
      · obtain ⟨CI, hCI⟩ : ∃ CI : Int, CI = (c.toNat : Int) := ⟨_, rfl⟩
        have hne : (CI == 48) = false := by
          rw [beq_eq_false_iff_ne, hCI]
          intro h
          exact h48 (UInt8.toNat_inj.1 (by simpa using Int.ofNat.inj h))
        have hc2 : wr.cell? ⟨g, k, none⟩ = some (.int .u8 CI) := by rw [hc, hCI]; rfl
        have hdig : dig d = (digs d).take (k + 1) := by have := H.out; rw [hts, trimZ_other _ _ h48] at this; rw [hts]; exact this.symm
        have HDIG := Lib.hid hdig
        have hln : R = k + 1 := by rw [HR.out, hdig]; simp; omega
        have HLN := Lib.hid hln
        clear hc hts hlt hcc hdig hln hCI
        have H48 := Lib.hid h48; clear h48
        go_wp2_with fail
        go_ret2
        rw [HDIG.out, HLN.out]
        exact ⟨rfl, HDG.out.pre ⟨(digs d).drop (k + 1), (List.take_append_drop _ _).symm⟩, HF.out⟩
set_option maxRecDepth 100000 in
theorem numDigits_any (d : Nat) (hd : d < 18446744073709551616) {B : Nat} {ea : Addr} (w : World) (hG : Gp B ea w) :
    Calls Tryz.prog 116 #[.int .u64 d] w fun e w' => e = .returned (.int .i64 (nD d)) ∧ w' = w := by
  by_cases h : d = 0
  · subst h
    have h1 : ∀ w, Calls Tryz.prog 128 #[.int .u64 0] w fun e w' => e = .returned (.int .i64 0) ∧ w' = w := fun w => by
      have := Tryz.bits_Len64 0 w (by decide) (by decide)
      rw [show Lib.bitLen (0 : Int).toNat = 0 from rfl] at this
      exact this
    have h2 : ∀ w, Calls Tryz.prog 131 #[.int .i64 0] w fun e w' => e = .returned (.int .i64 0) ∧ w' = w := fun w => by
      have := Tryz.internal_strconv_log10Pow2 0 (by decide) w
      exact this
    have H1 := Lib.hid h1
    have H2 := Lib.hid h2
    have hc : w.cell? ⟨7, 0, none⟩ = some (.int .u64 1) := by
      have := hG.pow.cell gPow 0 (by decide)
      exact this
    clear h1 h2
    rw [show nD 0 = 0 from rfl]
    go_enter Tryz.func116, Tryz.ntmps116
    go_wp2_with (first
      | (go_at_call 128; refine (H1.out _).mono ?_; rintro e w1 ⟨rfl, rfl⟩)
      | (go_at_call 131; refine (H2.out _).mono ?_; rintro e w1 ⟨rfl, rfl⟩)
      | (go_at_call 137; refine (Tryz.internal_strconv_bool2_int _ _).mono ?_; rintro e w1 ⟨rfl, rfl⟩))
    go_ret
    exact ⟨rfl, rfl⟩
  · have h1 := Tryz.internal_strconv_numDigits d (by omega) hd w hG.pow
    unfold nD
    rw [if_neg h]
    exact h1
end Go.Proofs.YtpkkgngpjeoffaaGreatDoor
