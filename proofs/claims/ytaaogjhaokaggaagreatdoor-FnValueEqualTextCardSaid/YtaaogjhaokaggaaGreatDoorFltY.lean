import Derived.Test.YtaaogjhaokaggaaGreatDoorFltU
import Derived.Test.YtaaogjhaokaggaaGreatDoorShelf
import Derived.Sort.AtCall
import Derived.Lib.ItoaLen
namespace Go.Proofs.YtaaogjhaokaggaaGreatDoor
open Go.RowKit

theorem uscale_int (x : Int) (hi lo : Nat) (hx0 : 0 ≤ x) (hx : x < 18446744073709551616) (hh : hi < 18446744073709551616) (hl : lo < 18446744073709551616) (s : Int) (hs0 : 0 ≤ s) (hs1 : s < 64) :
    ∃ r : Int, (∀ xN : Nat, x = (xN : Int) → 4611686018427387904 ≤ xN → 9223372036854775808 ≤ hi → r = (Inj.usq hi lo s.toNat xN : Nat)) ∧ ∀ (w : World) (b : Nat), w.heap[b]? = some (.cells #[.int .u64 hi, .int .u64 lo, .int .i64 s] 209 (0, 0)) → Calls Tryz.prog 168 #[.int .u64 x, .pointer (some ⟨b, 0, none⟩)] w fun e w' => e = .returned (.int .u64 r) ∧ Fr [] w w' := by
  obtain ⟨xN, rfl⟩ := Int.eq_ofNat_of_zero_le hx0
  obtain ⟨r, h1, h2⟩ := uscale_e2 xN hi lo (by omega) hh hl s hs0 hs1
  refine ⟨r, fun y hy => ?_, h2⟩
  obtain rfl : xN = y := by omega
  exact h1
/-- What the three scalings of a number come to. -/
structure Pieces (m mn mx od : Int) (hi lo : Nat) (s : Int) (dmin dmax dr um ux uu nm nx : Int) : Prop where
  a1 : ∀ (w : World) (b : Nat), w.heap[b]? = some (.cells #[.int .u64 hi, .int .u64 lo, .int .i64 s] 209 (0, 0)) → Calls Tryz.prog 168 #[.int .u64 mn, .pointer (some ⟨b, 0, none⟩)] w fun e w' => e = .returned (.int .u64 um) ∧ Fr [] w w'
  a2 : ∀ w, Calls Tryz.prog 169 #[.int .u64 um, .int .i64 od] w fun e w' => e = .returned (.int .u64 nm) ∧ w' = w
  a3 : ∀ w, Calls Tryz.prog 170 #[.int .u64 nm] w fun e w' => e = .returned (.int .u64 dmin) ∧ w' = w
  b1 : ∀ (w : World) (b : Nat), w.heap[b]? = some (.cells #[.int .u64 hi, .int .u64 lo, .int .i64 s] 209 (0, 0)) → Calls Tryz.prog 168 #[.int .u64 mx, .pointer (some ⟨b, 0, none⟩)] w fun e w' => e = .returned (.int .u64 ux) ∧ Fr [] w w'
  b2 : ∀ w, Calls Tryz.prog 169 #[.int .u64 ux, .int .i64 (wrap64 (-od))] w fun e w' => e = .returned (.int .u64 nx) ∧ w' = w
  b3 : ∀ w, Calls Tryz.prog 171 #[.int .u64 nx] w fun e w' => e = .returned (.int .u64 dmax) ∧ w' = w
  c1 : ∀ (w : World) (b : Nat), w.heap[b]? = some (.cells #[.int .u64 hi, .int .u64 lo, .int .i64 s] 209 (0, 0)) → Calls Tryz.prog 168 #[.int .u64 m, .pointer (some ⟨b, 0, none⟩)] w fun e w' => e = .returned (.int .u64 uu) ∧ Fr [] w w'
  c2 : ∀ w, Calls Tryz.prog 172 #[.int .u64 uu] w fun e w' => e = .returned (.int .u64 dr) ∧ w' = w
theorem wrap_u64_ok (x : Int) : 0 ≤ IntKind.u64.wrap x ∧ IntKind.u64.wrap x < 18446744073709551616 := by rw [IntKind.wrap_u64]; omega
/-- What they come to, told exactly. -/
def Px (m mn mx od : Int) (hi lo : Nat) (s : Int) (dmin dmax dr : Int) : Prop := ∀ mN mnN mxN oN : Nat, m = (mN : Int) → mn = (mnN : Int) → mx = (mxN : Int) → od = (oN : Int) → oN ≤ 1 → 4611686018427387904 ≤ mN → 4611686018427387904 ≤ mnN → 4611686018427387904 ≤ mxN → 9223372036854775808 ≤ hi → lo ≤ 18446744073709551616 → 4 ≤ s → s ≤ 58 →
  dmin = (Inj.dmin (Inj.usq hi lo s.toNat mnN) oN : Nat) ∧ dmax = (Inj.dmax (Inj.usq hi lo s.toNat mxN) oN : Nat) ∧ dr = (Inj.rnd (Inj.usq hi lo s.toNat mN) : Nat)
theorem pieces (m mn mx od : Int) (hm : 0 ≤ m ∧ m < 18446744073709551616) (hmn : 0 ≤ mn ∧ mn < 18446744073709551616) (hmx : 0 ≤ mx ∧ mx < 18446744073709551616) (hi lo : Nat) (hh : hi < 18446744073709551616) (hl : lo < 18446744073709551616) (s : Int) (hs : 0 ≤ s ∧ s < 64) :
    ∃ dmin dmax dr um ux uu nm nx : Int, (0 ≤ dmin ∧ dmin < 18446744073709551616) ∧ (0 ≤ dmax ∧ dmax < 18446744073709551616) ∧ (0 ≤ dr ∧ dr < 18446744073709551616) ∧ Pieces m mn mx od hi lo s dmin dmax dr um ux uu nm nx ∧ Px m mn mx od hi lo s dmin dmax dr := by
  obtain ⟨um, q1, h1⟩ := uscale_int mn hi lo hmn.1 hmn.2 hh hl s hs.1 hs.2
  obtain ⟨ux, q2, h2⟩ := uscale_int mx hi lo hmx.1 hmx.2 hh hl s hs.1 hs.2
  obtain ⟨uu, q3, h3⟩ := uscale_int m hi lo hm.1 hm.2 hh hl s hs.1 hs.2
  have n1 := nudge_any um od
  have n2 := nudge_any ux (wrap64 (-od))
  have k1 := ceil_any (IntKind.u64.wrap (um + IntKind.u64.wrap od))
  obtain ⟨dmax, hd, k2⟩ := floor_ex (IntKind.u64.wrap (ux + IntKind.u64.wrap (wrap64 (-od))))
  obtain ⟨dr, hr, q4, k3⟩ := round_e2 uu
  have w1 := wrap_u64_ok (IntKind.u64.wrap (um + IntKind.u64.wrap od) + 3)
  have w2 := wrap_u64_ok (ux + IntKind.u64.wrap (wrap64 (-od)))
  have hd2 := hd w2.1 w2.2
  refine ⟨_, dmax, dr, um, ux, uu, _, _, ⟨by omega, by omega⟩, ⟨by omega, by omega⟩, hr, ⟨h1, n1, k1, h2, n2, k2, h3, k3⟩, ?_⟩
  rintro mN mnN mxN oN rfl rfl rfl rfl ho b1 b2 b3 bh bl bs bs2
  have e1 := q1 mnN rfl b2 bh
  have e2 := q2 mxN rfl b3 bh
  have e3 := q3 mN rfl b1 bh
  have u1 := Inj.usq_lt hi lo s.toNat mnN hh (by omega) (by omega)
  have u2 := Inj.usq_lt hi lo s.toNat mxN hh (by omega) (by omega)
  have u3 := Inj.usq_lt hi lo s.toNat mN hh (by omega) (by omega)
  have v2 := Inj.usq_pos hi lo s.toNat mxN bl bh (by omega) b3
  have e4 := q4 _ e3 u3
  generalize Inj.usq hi lo s.toNat mnN = U1 at *
  generalize Inj.usq hi lo s.toNat mxN = U2 at *
  generalize Inj.usq hi lo s.toNat mN = U3 at *
  clear q1 q2 q3 q4 h1 h2 h3 n1 n2 k1 k2 k3 hd w1 w2
  subst e1; subst e2
  refine ⟨?_, ?_, e4⟩
  · unfold Inj.dmin
    simp only [IntKind.wrap_u64]
    omega
  · rw [hd2]
    unfold Inj.dmax wrap64
    simp only [IntKind.wrap_u64]
    rcases Nat.le_one_iff_eq_zero_or_eq_one.1 ho with rfl | rfl <;> omega
/-- What a number's decimal is, told by its scaling. -/
def XX (i s : Nat) (m mn mx od d p : Int) : Prop := ∀ mN mnN mxN oN : Nat, m = (mN : Int) → mn = (mnN : Int) → mx = (mxN : Int) → od = (oN : Int) → oN ≤ 1 → 4611686018427387904 ≤ mN → 4611686018427387904 ≤ mnN → 4611686018427387904 ≤ mxN → 9223372036854775808 ≤ (p10 i).1 → 4 ≤ s → s ≤ 58 → i ≤ 748 →
  d.toNat * 10 ^ (400 + p).toNat = Inj.pick (Inj.dmin (Inj.usq (p10 i).1 (p10 i).2 s mnN) oN) (Inj.dmax (Inj.usq (p10 i).1 (p10 i).2 s mxN) oN) (Inj.rnd (Inj.usq (p10 i).1 (p10 i).2 s mN)) * 10 ^ (748 - i)
theorem xx_of {m mn mx od dmin dmax dr P : Int} {i : Nat} {s : Int} (hs : 0 ≤ s) (hP : P = (i : Int) - 348) (h : Px m mn mx od (p10 i).1 (p10 i).2 s dmin dmax dr) :
    XX i s.toNat m mn mx od (if dmin ≤ dmax / 10 * 10 then dmax / 10 else if dmin < dmax then dr else dmin) (if dmin ≤ dmax / 10 * 10 then -(P - 1) else -P) := by
  intro mN mnN mxN oN e1 e2 e3 e4 ho b1 b2 b3 bh bs bs2 bi
  obtain ⟨h1, h2, h3⟩ := h mN mnN mxN oN e1 e2 e3 e4 ho b1 b2 b3 bh (Nat.le_of_lt (ten_lt i).2) (by omega) (by omega)
  generalize Inj.dmin (Inj.usq (p10 i).1 (p10 i).2 s.toNat mnN) oN = a at *
  generalize Inj.dmax (Inj.usq (p10 i).1 (p10 i).2 s.toNat mxN) oN = b at *
  generalize Inj.rnd (Inj.usq (p10 i).1 (p10 i).2 s.toNat mN) = c at *
  subst h1; subst h2; subst h3; subst hP
  clear h e1 e2 e3 e4 b1 b2 b3 bh
  unfold Inj.pick
  by_cases hD : a ≤ b / 10 * 10
  · have hD' : (a : Int) ≤ (b : Int) / 10 * 10 := by omega
    rw [if_pos hD, if_pos hD', if_pos hD']
    have x1 : ((b : Int) / 10).toNat = b / 10 := by omega
    have x2 : (400 + -((i : Int) - 348 - 1)).toNat = (748 - i) + 1 := by omega
    rw [x1, x2, Nat.pow_succ, Nat.mul_assoc, Nat.mul_comm 10 (10 ^ (748 - i))]
  · have hD' : ¬ (a : Int) ≤ (b : Int) / 10 * 10 := by omega
    rw [if_neg hD, if_neg hD', if_neg hD']
    have x2 : (400 + -((i : Int) - 348)).toNat = 748 - i := by omega
    rw [x2]
    by_cases hE : a < b
    · rw [if_pos hE, if_pos (by omega)]
      rfl
    · rw [if_neg hE, if_neg (by omega)]
      rfl
set_option maxRecDepth 100000 in
set_option maxHeartbeats 4000000 in
theorem short_A (e : Int) (he0 : -1085 < e) (he1 : e ≤ 960) : ∃ d p : Int, (0 ≤ d ∧ d < 18446744073709551616 ∧ -400 ≤ p ∧ p ≤ 500) ∧ (∃ i s : Nat, (i : Int) = (-(((e + 11) * 631305 - 261663) / 2097152)) + 348 ∧ (s : Int) = -(e + ((i : Int) - 348) * 108853 / 32768 + 3) ∧ XX i s (9223372036854775808) (9223372036854775296) (9223372036854776832) (bits BinOp.and IntKind.i64 4503599627370496 1) d p) ∧ ∀ (B : Nat) (ea : Addr) (w : World), Gv B ea w → Calls Tryz.prog 146 #[.int .u64 9223372036854775808, .int .i64 e] w fun ε w' => ε = .returned (.tuple #[.int .u64 d, .int .i64 p]) ∧ Fr [] w w' := by
  have k1 : decide (e > -1085) = true := decide_eq_true he0
  obtain ⟨i, hi⟩ : ∃ i : Nat, (i : Int) = (-(((e + 11) * 631305 - 261663) / 2097152)) + 348 := ⟨((-(((e + 11) * 631305 - 261663) / 2097152)) + 348).toNat, Int.toNat_of_nonneg (by omega)⟩
  obtain ⟨P, hP⟩ : ∃ P : Int, P = (-(((e + 11) * 631305 - 261663) / 2097152)) := ⟨_, rfl⟩
  have hPr : -400 ≤ P ∧ P ≤ 398 := by omega
  obtain ⟨s, hs⟩ : ∃ s : Int, s = -(e + P * 108853 / 32768 + 3) := ⟨_, rfl⟩
  have hs2 : 0 ≤ s ∧ s < 64 := by omega
  obtain ⟨dmin, dmax, dr, um, ux, uu, nm, nx, hmin, hmax, hdr, HP, hPX⟩ := pieces (9223372036854775808) (9223372036854775296) (9223372036854776832) (bits BinOp.and IntKind.i64 4503599627370496 1) ⟨by omega, by omega⟩ (⟨by omega, by omega⟩) (⟨by omega, by omega⟩) (p10 i).1 (p10 i).2 (ten_lt i).1 (ten_lt i).2 s hs2
  have hi6 : i < 696 := by omega
  have hiP : P = (i : Int) - 348 := by omega
  have hPS : ∀ (B : Nat) (ea : Addr) (w : World), Gv B ea w → Calls Tryz.prog 166 #[.pointer (some ⟨w.heap.size, 0, none⟩), .int .i64 e, .int .i64 P, .int .i64 (P * 108853 / 32768)] (w.alloc (.cells #[.int .u64 0, .int .u64 0, .int .i64 0] 209)) fun ε w' => ε = .returned (.tuple #[]) ∧ w'.heap[w.heap.size]? = some (.cells #[.int .u64 (p10 i).1, .int .u64 (p10 i).2, .int .i64 s] 209 (0, 0)) ∧ Fr [] w w' := by
    intro B ea w hG
    have h9 : 9 ≤ w.heap.size := Nat.le_trans (by have := hG.low; omega) hG.big
    have hp := prescale_any (B := B) (ea := ea) w.heap.size i hi6 e (P * 108853 / 32768) (by omega) (by omega) (by omega) (by omega) 0 0 0 (w.alloc (.cells #[.int .u64 0, .int .u64 0, .int .i64 0] 209)) (hG.fr ((Fr.refl [] w).alloc _) (by simp)) h9 (MapKept.heap_alloc w _).1
    rw [← hs, ← hiP] at hp
    refine hp.mono ?_
    rintro ε w' ⟨h1, h2, h3⟩
    exact ⟨h1, h2, ((Fr.refl [] w).alloc _).step h3 (by simp)⟩
  have HXX := Lib.hid (⟨i, s.toNat, hi, by rw [Int.toNat_of_nonneg hs2.1, hs, hiP], xx_of hs2.1 hiP hPX⟩ : ∃ i s : Nat, (i : Int) = (-(((e + 11) * 631305 - 261663) / 2097152)) + 348 ∧ (s : Int) = -(e + ((i : Int) - 348) * 108853 / 32768 + 3) ∧ XX i s (9223372036854775808) (9223372036854775296) (9223372036854776832) (bits BinOp.and IntKind.i64 4503599627370496 1) (if dmin ≤ dmax / 10 * 10 then dmax / 10 else if dmin < dmax then dr else dmin) (if dmin ≤ dmax / 10 * 10 then -(P - 1) else -P))
  have HPS := Lib.hid hPS
  have KP := Lib.hid HP
  have EP := Lib.hid hP
  clear hPS HP hiP hi hs hs2 hi6 hP hPX
  refine ⟨if dmin ≤ dmax / 10 * 10 then dmax / 10 else if dmin < dmax then dr else dmin, if dmin ≤ dmax / 10 * 10 then -(P - 1) else -P, ?_, HXX.out, fun B ea w hG => ?_⟩
  · clear HPS KP EP HXX
    split
    · omega
    · split <;> omega
  · have HG := Lib.hid hG
    clear hG hmin hdr
    go_enter Tryz.func146, Tryz.ntmps146
    go_upto_region 27 with (first
      | (go_at_call 165; refine (skew_any _ (by omega) (by omega) _).mono ?_; rintro ε w1 ⟨rfl, rfl⟩)
      | (go_at_call 125; refine (l10_any _ (by omega) (by omega) _).mono ?_; rintro ε w1 ⟨rfl, rfl⟩))
    rw [← EP.out]
    go_upto_if 118 with (first
      | (go_at_call 167; refine (l2_any _ (by omega) (by omega) _).mono ?_; rintro ε w2 ⟨rfl, rfl⟩)
      | (go_at_call 166; refine (HPS.out _ _ _ HG.out).mono ?_; rintro ε w3 ⟨rfl, hr3, hf3⟩; have R3 := Lib.hid hr3; have F3 := Lib.hid hf3; clear hr3 hf3)
      | (go_at_call_has 168 (Value.int .u64 (9223372036854775296)); refine (KP.out.a1 _ _ R3.out).mono ?_; rintro ε w4 ⟨rfl, hf4⟩; have R4 := Lib.hid (hf4.blk R3.out (by simp)); have F4 := Lib.hid (F3.out.trans hf4); clear hf4)
      | (go_at_call_has 169 (Value.int .u64 um); refine (KP.out.a2 _).mono ?_; rintro ε w5 ⟨rfl, rfl⟩)
      | (go_at_call 170; refine (KP.out.a3 _).mono ?_; rintro ε w6 ⟨rfl, rfl⟩)
      | (go_at_call_has 168 (Value.int .u64 (9223372036854776832)); refine (KP.out.b1 _ _ R4.out).mono ?_; rintro ε w7 ⟨rfl, hf7⟩; have R7 := Lib.hid (hf7.blk R4.out (by simp)); have F7 := Lib.hid (F4.out.trans hf7); clear hf7)
      | (go_at_call_has 169 (Value.int .u64 ux); refine (KP.out.b2 _).mono ?_; rintro ε w8 ⟨rfl, rfl⟩)
      | (go_at_call 171; refine (KP.out.b3 _).mono ?_; rintro ε w9 ⟨rfl, rfl⟩))
    by_cases hD : dmin ≤ dmax / 10 * 10
    · have j1 : decide (dmax / 10 * 10 ≥ dmin) = true := decide_eq_true hD
      go_wp2_with fail
      go_ret2
      first
        | exact ⟨rfl, F7.out⟩
        | exact ⟨by rw [if_pos (by omega), if_pos (by omega)], F7.out⟩
    · have j1 : decide (dmax / 10 * 10 ≥ dmin) = false := decide_eq_false hD
      by_cases hE : dmin < dmax
      · have j2 : decide (dmin < dmax) = true := decide_eq_true hE
        go_wp2_with (first
          | (go_at_call 168; refine (KP.out.c1 _ _ R7.out).mono ?_; rintro ε w10 ⟨rfl, hf10⟩; have F10 := Lib.hid (F7.out.trans hf10); clear hf10)
          | (go_at_call 172; refine (KP.out.c2 _).mono ?_; rintro ε w11 ⟨rfl, rfl⟩))
        go_ret2
        first
          | exact ⟨rfl, F10.out⟩
          | exact ⟨by rw [if_neg (by omega), if_neg (by omega), if_pos (by omega)], F10.out⟩
      · have j2 : decide (dmin < dmax) = false := decide_eq_false hE
        go_wp2_with fail
        go_ret2
        first
          | exact ⟨rfl, F7.out⟩
          | exact ⟨by rw [if_neg (by omega), if_neg (by omega), if_neg (by omega)], F7.out⟩
set_option maxRecDepth 100000 in
set_option maxHeartbeats 4000000 in
theorem short_B (e : Int) (he0 : -1085 ≤ e) (he1 : e ≤ -1085) : ∃ d p : Int, (0 ≤ d ∧ d < 18446744073709551616 ∧ -400 ≤ p ∧ p ≤ 500) ∧ (∃ i s : Nat, (i : Int) = (-((e + 11) * 78913 / 262144)) + 348 ∧ (s : Int) = -(e + ((i : Int) - 348) * 108853 / 32768 + 3) ∧ XX i s (9223372036854775808) (9223372036854774784) (9223372036854776832) (bits BinOp.and IntKind.i64 4503599627370496 1) d p) ∧ ∀ (B : Nat) (ea : Addr) (w : World), Gv B ea w → Calls Tryz.prog 146 #[.int .u64 9223372036854775808, .int .i64 e] w fun ε w' => ε = .returned (.tuple #[.int .u64 d, .int .i64 p]) ∧ Fr [] w w' := by
  have k1 : decide (e > -1085) = false := decide_eq_false (by omega)
  have k2 : decide (e ≥ -1085) = true := decide_eq_true (by omega)
  obtain ⟨i, hi⟩ : ∃ i : Nat, (i : Int) = (-((e + 11) * 78913 / 262144)) + 348 := ⟨((-((e + 11) * 78913 / 262144)) + 348).toNat, Int.toNat_of_nonneg (by omega)⟩
  obtain ⟨P, hP⟩ : ∃ P : Int, P = (-((e + 11) * 78913 / 262144)) := ⟨_, rfl⟩
  have hPr : -400 ≤ P ∧ P ≤ 398 := by omega
  obtain ⟨s, hs⟩ : ∃ s : Int, s = -(e + P * 108853 / 32768 + 3) := ⟨_, rfl⟩
  have hs2 : 0 ≤ s ∧ s < 64 := by omega
  obtain ⟨dmin, dmax, dr, um, ux, uu, nm, nx, hmin, hmax, hdr, HP, hPX⟩ := pieces (9223372036854775808) (9223372036854774784) (9223372036854776832) (bits BinOp.and IntKind.i64 4503599627370496 1) ⟨by omega, by omega⟩ (⟨by omega, by omega⟩) (⟨by omega, by omega⟩) (p10 i).1 (p10 i).2 (ten_lt i).1 (ten_lt i).2 s hs2
  have hi6 : i < 696 := by omega
  have hiP : P = (i : Int) - 348 := by omega
  have hPS : ∀ (B : Nat) (ea : Addr) (w : World), Gv B ea w → Calls Tryz.prog 166 #[.pointer (some ⟨w.heap.size, 0, none⟩), .int .i64 e, .int .i64 P, .int .i64 (P * 108853 / 32768)] (w.alloc (.cells #[.int .u64 0, .int .u64 0, .int .i64 0] 209)) fun ε w' => ε = .returned (.tuple #[]) ∧ w'.heap[w.heap.size]? = some (.cells #[.int .u64 (p10 i).1, .int .u64 (p10 i).2, .int .i64 s] 209 (0, 0)) ∧ Fr [] w w' := by
    intro B ea w hG
    have h9 : 9 ≤ w.heap.size := Nat.le_trans (by have := hG.low; omega) hG.big
    have hp := prescale_any (B := B) (ea := ea) w.heap.size i hi6 e (P * 108853 / 32768) (by omega) (by omega) (by omega) (by omega) 0 0 0 (w.alloc (.cells #[.int .u64 0, .int .u64 0, .int .i64 0] 209)) (hG.fr ((Fr.refl [] w).alloc _) (by simp)) h9 (MapKept.heap_alloc w _).1
    rw [← hs, ← hiP] at hp
    refine hp.mono ?_
    rintro ε w' ⟨h1, h2, h3⟩
    exact ⟨h1, h2, ((Fr.refl [] w).alloc _).step h3 (by simp)⟩
  have HXX := Lib.hid (⟨i, s.toNat, hi, by rw [Int.toNat_of_nonneg hs2.1, hs, hiP], xx_of hs2.1 hiP hPX⟩ : ∃ i s : Nat, (i : Int) = (-((e + 11) * 78913 / 262144)) + 348 ∧ (s : Int) = -(e + ((i : Int) - 348) * 108853 / 32768 + 3) ∧ XX i s (9223372036854775808) (9223372036854774784) (9223372036854776832) (bits BinOp.and IntKind.i64 4503599627370496 1) (if dmin ≤ dmax / 10 * 10 then dmax / 10 else if dmin < dmax then dr else dmin) (if dmin ≤ dmax / 10 * 10 then -(P - 1) else -P))
  have HPS := Lib.hid hPS
  have KP := Lib.hid HP
  have EP := Lib.hid hP
  clear hPS HP hiP hi hs hs2 hi6 hP hPX
  refine ⟨if dmin ≤ dmax / 10 * 10 then dmax / 10 else if dmin < dmax then dr else dmin, if dmin ≤ dmax / 10 * 10 then -(P - 1) else -P, ?_, HXX.out, fun B ea w hG => ?_⟩
  · clear HPS KP EP HXX
    split
    · omega
    · split <;> omega
  · have HG := Lib.hid hG
    clear hG hmin hdr
    go_enter Tryz.func146, Tryz.ntmps146
    go_upto_region 27 with (first
      | (go_at_call 165; refine (skew_any _ (by omega) (by omega) _).mono ?_; rintro ε w1 ⟨rfl, rfl⟩)
      | (go_at_call 125; refine (l10_any _ (by omega) (by omega) _).mono ?_; rintro ε w1 ⟨rfl, rfl⟩))
    rw [← EP.out]
    go_upto_if 118 with (first
      | (go_at_call 167; refine (l2_any _ (by omega) (by omega) _).mono ?_; rintro ε w2 ⟨rfl, rfl⟩)
      | (go_at_call 166; refine (HPS.out _ _ _ HG.out).mono ?_; rintro ε w3 ⟨rfl, hr3, hf3⟩; have R3 := Lib.hid hr3; have F3 := Lib.hid hf3; clear hr3 hf3)
      | (go_at_call_has 168 (Value.int .u64 (9223372036854774784)); refine (KP.out.a1 _ _ R3.out).mono ?_; rintro ε w4 ⟨rfl, hf4⟩; have R4 := Lib.hid (hf4.blk R3.out (by simp)); have F4 := Lib.hid (F3.out.trans hf4); clear hf4)
      | (go_at_call_has 169 (Value.int .u64 um); refine (KP.out.a2 _).mono ?_; rintro ε w5 ⟨rfl, rfl⟩)
      | (go_at_call 170; refine (KP.out.a3 _).mono ?_; rintro ε w6 ⟨rfl, rfl⟩)
      | (go_at_call_has 168 (Value.int .u64 (9223372036854776832)); refine (KP.out.b1 _ _ R4.out).mono ?_; rintro ε w7 ⟨rfl, hf7⟩; have R7 := Lib.hid (hf7.blk R4.out (by simp)); have F7 := Lib.hid (F4.out.trans hf7); clear hf7)
      | (go_at_call_has 169 (Value.int .u64 ux); refine (KP.out.b2 _).mono ?_; rintro ε w8 ⟨rfl, rfl⟩)
      | (go_at_call 171; refine (KP.out.b3 _).mono ?_; rintro ε w9 ⟨rfl, rfl⟩))
    by_cases hD : dmin ≤ dmax / 10 * 10
    · have j1 : decide (dmax / 10 * 10 ≥ dmin) = true := decide_eq_true hD
      go_wp2_with fail
      go_ret2
      first
        | exact ⟨rfl, F7.out⟩
        | exact ⟨by rw [if_pos (by omega), if_pos (by omega)], F7.out⟩
    · have j1 : decide (dmax / 10 * 10 ≥ dmin) = false := decide_eq_false hD
      by_cases hE : dmin < dmax
      · have j2 : decide (dmin < dmax) = true := decide_eq_true hE
        go_wp2_with (first
          | (go_at_call 168; refine (KP.out.c1 _ _ R7.out).mono ?_; rintro ε w10 ⟨rfl, hf10⟩; have F10 := Lib.hid (F7.out.trans hf10); clear hf10)
          | (go_at_call 172; refine (KP.out.c2 _).mono ?_; rintro ε w11 ⟨rfl, rfl⟩))
        go_ret2
        first
          | exact ⟨rfl, F10.out⟩
          | exact ⟨by rw [if_neg (by omega), if_neg (by omega), if_pos (by omega)], F10.out⟩
      · have j2 : decide (dmin < dmax) = false := decide_eq_false hE
        go_wp2_with fail
        go_ret2
        first
          | exact ⟨rfl, F7.out⟩
          | exact ⟨by rw [if_neg (by omega), if_neg (by omega), if_neg (by omega)], F7.out⟩
set_option maxRecDepth 100000 in
set_option maxHeartbeats 4000000 in
theorem short_C (m : Int) (hm0 : 9223372036854775808 ≤ m) (hm1 : m < 18446744073709551616) (hm : m ≠ 9223372036854775808) (e : Int) (he0 : -1085 ≤ e) (he1 : e ≤ 960) : ∃ d p : Int, (0 ≤ d ∧ d < 18446744073709551616 ∧ -400 ≤ p ∧ p ≤ 500) ∧ (∃ i s : Nat, (i : Int) = (-((e + 11) * 78913 / 262144)) + 348 ∧ (s : Int) = -(e + ((i : Int) - 348) * 108853 / 32768 + 3) ∧ XX i s (m) (m - 1024) (IntKind.u64.wrap (m + 1024)) (bits BinOp.and IntKind.i64 (m / 2048) 1) d p) ∧ ∀ (B : Nat) (ea : Addr) (w : World), Gv B ea w → Calls Tryz.prog 146 #[.int .u64 m, .int .i64 e] w fun ε w' => ε = .returned (.tuple #[.int .u64 d, .int .i64 p]) ∧ Fr [] w w' := by
  have k2 : decide (e ≥ -1085) = true := decide_eq_true he0
  have k1 : (m == 9223372036854775808) = false := by simpa using hm
  obtain ⟨i, hi⟩ : ∃ i : Nat, (i : Int) = (-((e + 11) * 78913 / 262144)) + 348 := ⟨((-((e + 11) * 78913 / 262144)) + 348).toNat, Int.toNat_of_nonneg (by omega)⟩
  obtain ⟨P, hP⟩ : ∃ P : Int, P = (-((e + 11) * 78913 / 262144)) := ⟨_, rfl⟩
  have hPr : -400 ≤ P ∧ P ≤ 398 := by omega
  obtain ⟨s, hs⟩ : ∃ s : Int, s = -(e + P * 108853 / 32768 + 3) := ⟨_, rfl⟩
  have hs2 : 0 ≤ s ∧ s < 64 := by omega
  obtain ⟨dmin, dmax, dr, um, ux, uu, nm, nx, hmin, hmax, hdr, HP, hPX⟩ := pieces (m) (m - 1024) (IntKind.u64.wrap (m + 1024)) (bits BinOp.and IntKind.i64 (m / 2048) 1) ⟨by omega, by omega⟩ (⟨by omega, by omega⟩) (wrap_u64_ok _) (p10 i).1 (p10 i).2 (ten_lt i).1 (ten_lt i).2 s hs2
  have hi6 : i < 696 := by omega
  have hiP : P = (i : Int) - 348 := by omega
  have hPS : ∀ (B : Nat) (ea : Addr) (w : World), Gv B ea w → Calls Tryz.prog 166 #[.pointer (some ⟨w.heap.size, 0, none⟩), .int .i64 e, .int .i64 P, .int .i64 (P * 108853 / 32768)] (w.alloc (.cells #[.int .u64 0, .int .u64 0, .int .i64 0] 209)) fun ε w' => ε = .returned (.tuple #[]) ∧ w'.heap[w.heap.size]? = some (.cells #[.int .u64 (p10 i).1, .int .u64 (p10 i).2, .int .i64 s] 209 (0, 0)) ∧ Fr [] w w' := by
    intro B ea w hG
    have h9 : 9 ≤ w.heap.size := Nat.le_trans (by have := hG.low; omega) hG.big
    have hp := prescale_any (B := B) (ea := ea) w.heap.size i hi6 e (P * 108853 / 32768) (by omega) (by omega) (by omega) (by omega) 0 0 0 (w.alloc (.cells #[.int .u64 0, .int .u64 0, .int .i64 0] 209)) (hG.fr ((Fr.refl [] w).alloc _) (by simp)) h9 (MapKept.heap_alloc w _).1
    rw [← hs, ← hiP] at hp
    refine hp.mono ?_
    rintro ε w' ⟨h1, h2, h3⟩
    exact ⟨h1, h2, ((Fr.refl [] w).alloc _).step h3 (by simp)⟩
  have HXX := Lib.hid (⟨i, s.toNat, hi, by rw [Int.toNat_of_nonneg hs2.1, hs, hiP], xx_of hs2.1 hiP hPX⟩ : ∃ i s : Nat, (i : Int) = (-((e + 11) * 78913 / 262144)) + 348 ∧ (s : Int) = -(e + ((i : Int) - 348) * 108853 / 32768 + 3) ∧ XX i s (m) (m - 1024) (IntKind.u64.wrap (m + 1024)) (bits BinOp.and IntKind.i64 (m / 2048) 1) (if dmin ≤ dmax / 10 * 10 then dmax / 10 else if dmin < dmax then dr else dmin) (if dmin ≤ dmax / 10 * 10 then -(P - 1) else -P))
  have HPS := Lib.hid hPS
  have KP := Lib.hid HP
  have EP := Lib.hid hP
  clear hPS HP hiP hi hs hs2 hi6 hP hPX
  refine ⟨if dmin ≤ dmax / 10 * 10 then dmax / 10 else if dmin < dmax then dr else dmin, if dmin ≤ dmax / 10 * 10 then -(P - 1) else -P, ?_, HXX.out, fun B ea w hG => ?_⟩
  · clear HPS KP EP HXX
    split
    · omega
    · split <;> omega
  · have HG := Lib.hid hG
    clear hG hmin hdr
    go_enter Tryz.func146, Tryz.ntmps146
    go_upto_region 27 with (first
      | (go_at_call 165; refine (skew_any _ (by omega) (by omega) _).mono ?_; rintro ε w1 ⟨rfl, rfl⟩)
      | (go_at_call 125; refine (l10_any _ (by omega) (by omega) _).mono ?_; rintro ε w1 ⟨rfl, rfl⟩))
    rw [← EP.out]
    go_upto_if 118 with (first
      | (go_at_call 167; refine (l2_any _ (by omega) (by omega) _).mono ?_; rintro ε w2 ⟨rfl, rfl⟩)
      | (go_at_call 166; refine (HPS.out _ _ _ HG.out).mono ?_; rintro ε w3 ⟨rfl, hr3, hf3⟩; have R3 := Lib.hid hr3; have F3 := Lib.hid hf3; clear hr3 hf3)
      | (go_at_call_has 168 (Value.int .u64 (m - 1024)); refine (KP.out.a1 _ _ R3.out).mono ?_; rintro ε w4 ⟨rfl, hf4⟩; have R4 := Lib.hid (hf4.blk R3.out (by simp)); have F4 := Lib.hid (F3.out.trans hf4); clear hf4)
      | (go_at_call_has 169 (Value.int .u64 um); refine (KP.out.a2 _).mono ?_; rintro ε w5 ⟨rfl, rfl⟩)
      | (go_at_call 170; refine (KP.out.a3 _).mono ?_; rintro ε w6 ⟨rfl, rfl⟩)
      | (go_at_call_has 168 (Value.int .u64 (IntKind.u64.wrap (m + 1024))); refine (KP.out.b1 _ _ R4.out).mono ?_; rintro ε w7 ⟨rfl, hf7⟩; have R7 := Lib.hid (hf7.blk R4.out (by simp)); have F7 := Lib.hid (F4.out.trans hf7); clear hf7)
      | (go_at_call_has 169 (Value.int .u64 ux); refine (KP.out.b2 _).mono ?_; rintro ε w8 ⟨rfl, rfl⟩)
      | (go_at_call 171; refine (KP.out.b3 _).mono ?_; rintro ε w9 ⟨rfl, rfl⟩))
    by_cases hD : dmin ≤ dmax / 10 * 10
    · have j1 : decide (dmax / 10 * 10 ≥ dmin) = true := decide_eq_true hD
      go_wp2_with fail
      go_ret2
      first
        | exact ⟨rfl, F7.out⟩
        | exact ⟨by rw [if_pos (by omega), if_pos (by omega)], F7.out⟩
    · have j1 : decide (dmax / 10 * 10 ≥ dmin) = false := decide_eq_false hD
      by_cases hE : dmin < dmax
      · have j2 : decide (dmin < dmax) = true := decide_eq_true hE
        go_wp2_with (first
          | (go_at_call 168; refine (KP.out.c1 _ _ R7.out).mono ?_; rintro ε w10 ⟨rfl, hf10⟩; have F10 := Lib.hid (F7.out.trans hf10); clear hf10)
          | (go_at_call 172; refine (KP.out.c2 _).mono ?_; rintro ε w11 ⟨rfl, rfl⟩))
        go_ret2
        first
          | exact ⟨rfl, F10.out⟩
          | exact ⟨by rw [if_neg (by omega), if_neg (by omega), if_pos (by omega)], F10.out⟩
      · have j2 : decide (dmin < dmax) = false := decide_eq_false hE
        go_wp2_with fail
        go_ret2
        first
          | exact ⟨rfl, F7.out⟩
          | exact ⟨by rw [if_neg (by omega), if_neg (by omega), if_neg (by omega)], F7.out⟩
set_option maxRecDepth 100000 in
set_option maxHeartbeats 4000000 in
theorem short_D (e : Int) (he0 : -1137 ≤ e) (he1 : e < -1085) : ∃ d p : Int, (0 ≤ d ∧ d < 18446744073709551616 ∧ -400 ≤ p ∧ p ≤ 500) ∧ (∃ i s : Nat, (i : Int) = (-((e + (11 + (-1085 - e))) * 78913 / 262144)) + 348 ∧ (s : Int) = -(e + ((i : Int) - 348) * 108853 / 32768 + 3) ∧ XX i s (9223372036854775808) ((IntKind.u64.wrap (9223372036854775808 - IntKind.u64.wrap (2 ^ ((11 + (-1085 - e)).toNat - 1))))) ((IntKind.u64.wrap (9223372036854775808 + IntKind.u64.wrap (2 ^ ((11 + (-1085 - e)).toNat - 1))))) ((bits BinOp.and IntKind.i64 (wrap64 (9223372036854775808 / 2 ^ (11 + (-1085 - e)).toNat)) 1)) d p) ∧ ∀ (B : Nat) (ea : Addr) (w : World), Gv B ea w → Calls Tryz.prog 146 #[.int .u64 9223372036854775808, .int .i64 e] w fun ε w' => ε = .returned (.tuple #[.int .u64 d, .int .i64 p]) ∧ Fr [] w w' := by
  have k2 : decide (e ≥ -1085) = false := decide_eq_false (by omega)
  have k1 : decide (e > -1085) = false := decide_eq_false (by omega)
  obtain ⟨i, hi⟩ : ∃ i : Nat, (i : Int) = (-((e + (11 + (-1085 - e))) * 78913 / 262144)) + 348 := ⟨((-((e + (11 + (-1085 - e))) * 78913 / 262144)) + 348).toNat, Int.toNat_of_nonneg (by omega)⟩
  obtain ⟨P, hP⟩ : ∃ P : Int, P = (-((e + (11 + (-1085 - e))) * 78913 / 262144)) := ⟨_, rfl⟩
  have hPr : -400 ≤ P ∧ P ≤ 398 := by omega
  obtain ⟨s, hs⟩ : ∃ s : Int, s = -(e + P * 108853 / 32768 + 3) := ⟨_, rfl⟩
  have hs2 : 0 ≤ s ∧ s < 64 := by omega
  obtain ⟨dmin, dmax, dr, um, ux, uu, nm, nx, hmin, hmax, hdr, HP, hPX⟩ := pieces (9223372036854775808) ((IntKind.u64.wrap (9223372036854775808 - IntKind.u64.wrap (2 ^ ((11 + (-1085 - e)).toNat - 1))))) ((IntKind.u64.wrap (9223372036854775808 + IntKind.u64.wrap (2 ^ ((11 + (-1085 - e)).toNat - 1))))) ((bits BinOp.and IntKind.i64 (wrap64 (9223372036854775808 / 2 ^ (11 + (-1085 - e)).toNat)) 1)) ⟨by omega, by omega⟩ (wrap_u64_ok _) (wrap_u64_ok _) (p10 i).1 (p10 i).2 (ten_lt i).1 (ten_lt i).2 s hs2
  have hi6 : i < 696 := by omega
  have hiP : P = (i : Int) - 348 := by omega
  have hPS : ∀ (B : Nat) (ea : Addr) (w : World), Gv B ea w → Calls Tryz.prog 166 #[.pointer (some ⟨w.heap.size, 0, none⟩), .int .i64 e, .int .i64 P, .int .i64 (P * 108853 / 32768)] (w.alloc (.cells #[.int .u64 0, .int .u64 0, .int .i64 0] 209)) fun ε w' => ε = .returned (.tuple #[]) ∧ w'.heap[w.heap.size]? = some (.cells #[.int .u64 (p10 i).1, .int .u64 (p10 i).2, .int .i64 s] 209 (0, 0)) ∧ Fr [] w w' := by
    intro B ea w hG
    have h9 : 9 ≤ w.heap.size := Nat.le_trans (by have := hG.low; omega) hG.big
    have hp := prescale_any (B := B) (ea := ea) w.heap.size i hi6 e (P * 108853 / 32768) (by omega) (by omega) (by omega) (by omega) 0 0 0 (w.alloc (.cells #[.int .u64 0, .int .u64 0, .int .i64 0] 209)) (hG.fr ((Fr.refl [] w).alloc _) (by simp)) h9 (MapKept.heap_alloc w _).1
    rw [← hs, ← hiP] at hp
    refine hp.mono ?_
    rintro ε w' ⟨h1, h2, h3⟩
    exact ⟨h1, h2, ((Fr.refl [] w).alloc _).step h3 (by simp)⟩
  have HXX := Lib.hid (⟨i, s.toNat, hi, by rw [Int.toNat_of_nonneg hs2.1, hs, hiP], xx_of hs2.1 hiP hPX⟩ : ∃ i s : Nat, (i : Int) = (-((e + (11 + (-1085 - e))) * 78913 / 262144)) + 348 ∧ (s : Int) = -(e + ((i : Int) - 348) * 108853 / 32768 + 3) ∧ XX i s (9223372036854775808) ((IntKind.u64.wrap (9223372036854775808 - IntKind.u64.wrap (2 ^ ((11 + (-1085 - e)).toNat - 1))))) ((IntKind.u64.wrap (9223372036854775808 + IntKind.u64.wrap (2 ^ ((11 + (-1085 - e)).toNat - 1))))) ((bits BinOp.and IntKind.i64 (wrap64 (9223372036854775808 / 2 ^ (11 + (-1085 - e)).toNat)) 1)) (if dmin ≤ dmax / 10 * 10 then dmax / 10 else if dmin < dmax then dr else dmin) (if dmin ≤ dmax / 10 * 10 then -(P - 1) else -P))
  have HPS := Lib.hid hPS
  have KP := Lib.hid HP
  have EP := Lib.hid hP
  clear hPS HP hiP hi hs hs2 hi6 hP hPX
  refine ⟨if dmin ≤ dmax / 10 * 10 then dmax / 10 else if dmin < dmax then dr else dmin, if dmin ≤ dmax / 10 * 10 then -(P - 1) else -P, ?_, HXX.out, fun B ea w hG => ?_⟩
  · clear HPS KP EP HXX
    split
    · omega
    · split <;> omega
  · have HG := Lib.hid hG
    clear hG hmin hdr
    go_enter Tryz.func146, Tryz.ntmps146
    go_upto_region 27 with (first
      | (go_at_call 165; refine (skew_any _ (by omega) (by omega) _).mono ?_; rintro ε w1 ⟨rfl, rfl⟩)
      | (go_at_call 125; refine (l10_any _ (by omega) (by omega) _).mono ?_; rintro ε w1 ⟨rfl, rfl⟩))
    rw [← EP.out]
    go_upto_if 118 with (first
      | (go_at_call 167; refine (l2_any _ (by omega) (by omega) _).mono ?_; rintro ε w2 ⟨rfl, rfl⟩)
      | (go_at_call 166; refine (HPS.out _ _ _ HG.out).mono ?_; rintro ε w3 ⟨rfl, hr3, hf3⟩; have R3 := Lib.hid hr3; have F3 := Lib.hid hf3; clear hr3 hf3)
      | (go_at_call_has 168 (Value.int .u64 ((IntKind.u64.wrap (9223372036854775808 - IntKind.u64.wrap (2 ^ ((11 + (-1085 - e)).toNat - 1)))))); refine (KP.out.a1 _ _ R3.out).mono ?_; rintro ε w4 ⟨rfl, hf4⟩; have R4 := Lib.hid (hf4.blk R3.out (by simp)); have F4 := Lib.hid (F3.out.trans hf4); clear hf4)
      | (go_at_call_has 169 (Value.int .u64 um); refine (KP.out.a2 _).mono ?_; rintro ε w5 ⟨rfl, rfl⟩)
      | (go_at_call 170; refine (KP.out.a3 _).mono ?_; rintro ε w6 ⟨rfl, rfl⟩)
      | (go_at_call_has 168 (Value.int .u64 ((IntKind.u64.wrap (9223372036854775808 + IntKind.u64.wrap (2 ^ ((11 + (-1085 - e)).toNat - 1)))))); refine (KP.out.b1 _ _ R4.out).mono ?_; rintro ε w7 ⟨rfl, hf7⟩; have R7 := Lib.hid (hf7.blk R4.out (by simp)); have F7 := Lib.hid (F4.out.trans hf7); clear hf7)
      | (go_at_call_has 169 (Value.int .u64 ux); refine (KP.out.b2 _).mono ?_; rintro ε w8 ⟨rfl, rfl⟩)
      | (go_at_call 171; refine (KP.out.b3 _).mono ?_; rintro ε w9 ⟨rfl, rfl⟩))
    by_cases hD : dmin ≤ dmax / 10 * 10
    · have j1 : decide (dmax / 10 * 10 ≥ dmin) = true := decide_eq_true hD
      go_wp2_with fail
      go_ret2
      first
        | exact ⟨rfl, F7.out⟩
        | exact ⟨by rw [if_pos (by omega), if_pos (by omega)], F7.out⟩
    · have j1 : decide (dmax / 10 * 10 ≥ dmin) = false := decide_eq_false hD
      by_cases hE : dmin < dmax
      · have j2 : decide (dmin < dmax) = true := decide_eq_true hE
        go_wp2_with (first
          | (go_at_call 168; refine (KP.out.c1 _ _ R7.out).mono ?_; rintro ε w10 ⟨rfl, hf10⟩; have F10 := Lib.hid (F7.out.trans hf10); clear hf10)
          | (go_at_call 172; refine (KP.out.c2 _).mono ?_; rintro ε w11 ⟨rfl, rfl⟩))
        go_ret2
        first
          | exact ⟨rfl, F10.out⟩
          | exact ⟨by rw [if_neg (by omega), if_neg (by omega), if_pos (by omega)], F10.out⟩
      · have j2 : decide (dmin < dmax) = false := decide_eq_false hE
        go_wp2_with fail
        go_ret2
        first
          | exact ⟨rfl, F7.out⟩
          | exact ⟨by rw [if_neg (by omega), if_neg (by omega), if_neg (by omega)], F7.out⟩
set_option maxRecDepth 100000 in
set_option maxHeartbeats 4000000 in
theorem short_E (m : Int) (hm0 : 9223372036854775808 ≤ m) (hm1 : m < 18446744073709551616) (hm : m ≠ 9223372036854775808) (e : Int) (he0 : -1137 ≤ e) (he1 : e < -1085) : ∃ d p : Int, (0 ≤ d ∧ d < 18446744073709551616 ∧ -400 ≤ p ∧ p ≤ 500) ∧ (∃ i s : Nat, (i : Int) = (-((e + (11 + (-1085 - e))) * 78913 / 262144)) + 348 ∧ (s : Int) = -(e + ((i : Int) - 348) * 108853 / 32768 + 3) ∧ XX i s (m) ((IntKind.u64.wrap (m - IntKind.u64.wrap (2 ^ ((11 + (-1085 - e)).toNat - 1))))) ((IntKind.u64.wrap (m + IntKind.u64.wrap (2 ^ ((11 + (-1085 - e)).toNat - 1))))) ((bits BinOp.and IntKind.i64 (wrap64 (m / 2 ^ (11 + (-1085 - e)).toNat)) 1)) d p) ∧ ∀ (B : Nat) (ea : Addr) (w : World), Gv B ea w → Calls Tryz.prog 146 #[.int .u64 m, .int .i64 e] w fun ε w' => ε = .returned (.tuple #[.int .u64 d, .int .i64 p]) ∧ Fr [] w w' := by
  have k2 : decide (e ≥ -1085) = false := decide_eq_false (by omega)
  have k1 : (m == 9223372036854775808) = false := by simpa using hm
  obtain ⟨i, hi⟩ : ∃ i : Nat, (i : Int) = (-((e + (11 + (-1085 - e))) * 78913 / 262144)) + 348 := ⟨((-((e + (11 + (-1085 - e))) * 78913 / 262144)) + 348).toNat, Int.toNat_of_nonneg (by omega)⟩
  obtain ⟨P, hP⟩ : ∃ P : Int, P = (-((e + (11 + (-1085 - e))) * 78913 / 262144)) := ⟨_, rfl⟩
  have hPr : -400 ≤ P ∧ P ≤ 398 := by omega
  obtain ⟨s, hs⟩ : ∃ s : Int, s = -(e + P * 108853 / 32768 + 3) := ⟨_, rfl⟩
  have hs2 : 0 ≤ s ∧ s < 64 := by omega
  obtain ⟨dmin, dmax, dr, um, ux, uu, nm, nx, hmin, hmax, hdr, HP, hPX⟩ := pieces (m) ((IntKind.u64.wrap (m - IntKind.u64.wrap (2 ^ ((11 + (-1085 - e)).toNat - 1))))) ((IntKind.u64.wrap (m + IntKind.u64.wrap (2 ^ ((11 + (-1085 - e)).toNat - 1))))) ((bits BinOp.and IntKind.i64 (wrap64 (m / 2 ^ (11 + (-1085 - e)).toNat)) 1)) ⟨by omega, by omega⟩ (wrap_u64_ok _) (wrap_u64_ok _) (p10 i).1 (p10 i).2 (ten_lt i).1 (ten_lt i).2 s hs2
  have hi6 : i < 696 := by omega
  have hiP : P = (i : Int) - 348 := by omega
  have hPS : ∀ (B : Nat) (ea : Addr) (w : World), Gv B ea w → Calls Tryz.prog 166 #[.pointer (some ⟨w.heap.size, 0, none⟩), .int .i64 e, .int .i64 P, .int .i64 (P * 108853 / 32768)] (w.alloc (.cells #[.int .u64 0, .int .u64 0, .int .i64 0] 209)) fun ε w' => ε = .returned (.tuple #[]) ∧ w'.heap[w.heap.size]? = some (.cells #[.int .u64 (p10 i).1, .int .u64 (p10 i).2, .int .i64 s] 209 (0, 0)) ∧ Fr [] w w' := by
    intro B ea w hG
    have h9 : 9 ≤ w.heap.size := Nat.le_trans (by have := hG.low; omega) hG.big
    have hp := prescale_any (B := B) (ea := ea) w.heap.size i hi6 e (P * 108853 / 32768) (by omega) (by omega) (by omega) (by omega) 0 0 0 (w.alloc (.cells #[.int .u64 0, .int .u64 0, .int .i64 0] 209)) (hG.fr ((Fr.refl [] w).alloc _) (by simp)) h9 (MapKept.heap_alloc w _).1
    rw [← hs, ← hiP] at hp
    refine hp.mono ?_
    rintro ε w' ⟨h1, h2, h3⟩
    exact ⟨h1, h2, ((Fr.refl [] w).alloc _).step h3 (by simp)⟩
  have HXX := Lib.hid (⟨i, s.toNat, hi, by rw [Int.toNat_of_nonneg hs2.1, hs, hiP], xx_of hs2.1 hiP hPX⟩ : ∃ i s : Nat, (i : Int) = (-((e + (11 + (-1085 - e))) * 78913 / 262144)) + 348 ∧ (s : Int) = -(e + ((i : Int) - 348) * 108853 / 32768 + 3) ∧ XX i s (m) ((IntKind.u64.wrap (m - IntKind.u64.wrap (2 ^ ((11 + (-1085 - e)).toNat - 1))))) ((IntKind.u64.wrap (m + IntKind.u64.wrap (2 ^ ((11 + (-1085 - e)).toNat - 1))))) ((bits BinOp.and IntKind.i64 (wrap64 (m / 2 ^ (11 + (-1085 - e)).toNat)) 1)) (if dmin ≤ dmax / 10 * 10 then dmax / 10 else if dmin < dmax then dr else dmin) (if dmin ≤ dmax / 10 * 10 then -(P - 1) else -P))
  have HPS := Lib.hid hPS
  have KP := Lib.hid HP
  have EP := Lib.hid hP
  clear hPS HP hiP hi hs hs2 hi6 hP hPX
  refine ⟨if dmin ≤ dmax / 10 * 10 then dmax / 10 else if dmin < dmax then dr else dmin, if dmin ≤ dmax / 10 * 10 then -(P - 1) else -P, ?_, HXX.out, fun B ea w hG => ?_⟩
  · clear HPS KP EP HXX
    split
    · omega
    · split <;> omega
  · have HG := Lib.hid hG
    clear hG hmin hdr
    go_enter Tryz.func146, Tryz.ntmps146
    go_upto_region 27 with (first
      | (go_at_call 165; refine (skew_any _ (by omega) (by omega) _).mono ?_; rintro ε w1 ⟨rfl, rfl⟩)
      | (go_at_call 125; refine (l10_any _ (by omega) (by omega) _).mono ?_; rintro ε w1 ⟨rfl, rfl⟩))
    rw [← EP.out]
    go_upto_if 118 with (first
      | (go_at_call 167; refine (l2_any _ (by omega) (by omega) _).mono ?_; rintro ε w2 ⟨rfl, rfl⟩)
      | (go_at_call 166; refine (HPS.out _ _ _ HG.out).mono ?_; rintro ε w3 ⟨rfl, hr3, hf3⟩; have R3 := Lib.hid hr3; have F3 := Lib.hid hf3; clear hr3 hf3)
      | (go_at_call_has 168 (Value.int .u64 ((IntKind.u64.wrap (m - IntKind.u64.wrap (2 ^ ((11 + (-1085 - e)).toNat - 1)))))); refine (KP.out.a1 _ _ R3.out).mono ?_; rintro ε w4 ⟨rfl, hf4⟩; have R4 := Lib.hid (hf4.blk R3.out (by simp)); have F4 := Lib.hid (F3.out.trans hf4); clear hf4)
      | (go_at_call_has 169 (Value.int .u64 um); refine (KP.out.a2 _).mono ?_; rintro ε w5 ⟨rfl, rfl⟩)
      | (go_at_call 170; refine (KP.out.a3 _).mono ?_; rintro ε w6 ⟨rfl, rfl⟩)
      | (go_at_call_has 168 (Value.int .u64 ((IntKind.u64.wrap (m + IntKind.u64.wrap (2 ^ ((11 + (-1085 - e)).toNat - 1)))))); refine (KP.out.b1 _ _ R4.out).mono ?_; rintro ε w7 ⟨rfl, hf7⟩; have R7 := Lib.hid (hf7.blk R4.out (by simp)); have F7 := Lib.hid (F4.out.trans hf7); clear hf7)
      | (go_at_call_has 169 (Value.int .u64 ux); refine (KP.out.b2 _).mono ?_; rintro ε w8 ⟨rfl, rfl⟩)
      | (go_at_call 171; refine (KP.out.b3 _).mono ?_; rintro ε w9 ⟨rfl, rfl⟩))
    by_cases hD : dmin ≤ dmax / 10 * 10
    · have j1 : decide (dmax / 10 * 10 ≥ dmin) = true := decide_eq_true hD
      go_wp2_with fail
      go_ret2
      first
        | exact ⟨rfl, F7.out⟩
        | exact ⟨by rw [if_pos (by omega), if_pos (by omega)], F7.out⟩
    · have j1 : decide (dmax / 10 * 10 ≥ dmin) = false := decide_eq_false hD
      by_cases hE : dmin < dmax
      · have j2 : decide (dmin < dmax) = true := decide_eq_true hE
        go_wp2_with (first
          | (go_at_call 168; refine (KP.out.c1 _ _ R7.out).mono ?_; rintro ε w10 ⟨rfl, hf10⟩; have F10 := Lib.hid (F7.out.trans hf10); clear hf10)
          | (go_at_call 172; refine (KP.out.c2 _).mono ?_; rintro ε w11 ⟨rfl, rfl⟩))
        go_ret2
        first
          | exact ⟨rfl, F10.out⟩
          | exact ⟨by rw [if_neg (by omega), if_neg (by omega), if_pos (by omega)], F10.out⟩
      · have j2 : decide (dmin < dmax) = false := decide_eq_false hE
        go_wp2_with fail
        go_ret2
        first
          | exact ⟨rfl, F7.out⟩
          | exact ⟨by rw [if_neg (by omega), if_neg (by omega), if_neg (by omega)], F7.out⟩
/-- A block's exponent. -/
def eOf (j : Nat) : Int := if j ≤ 52 then (j : Int) - 1137 else ((2 + (j - 53) / 2 : Nat) : Int) - 1086
theorem odd_bit (x : Nat) (h : x < 9223372036854775808) : bits .and .i64 (x : Int) 1 = ((x % 2 : Nat) : Int) := by
  have h := bits_mask .i64 63 (by decide) (fun n a b => by rw [IntKind.wrap_i64]; omega) 1 (by decide) (x : Int) (by omega) (by omega)
  rw [show (1 : Int) = 2 ^ 1 - 1 by decide, h]
  omega
theorem vl_of {j mm i s : Nat} {m mn mx od d p : Int} (hX : XX i s m mn mx od d p) (hO : Inj.Ok p10 j) (hi : i = (Inj.blk j).i) (hs : s = (Inj.blk j).s) (h1 : m = ((mm * 2 ^ (Inj.blk j).z : Nat) : Int)) (h2 : mn = ((mm * 2 ^ (Inj.blk j).z - (Inj.blk j).dn : Nat) : Int)) (h3 : mx = ((mm * 2 ^ (Inj.blk j).z + 2 ^ ((Inj.blk j).z - 1) : Nat) : Int)) (h4 : od = ((mm % 2 : Nat) : Int)) (hm : 4611686018427387904 ≤ mm * 2 ^ (Inj.blk j).z - (Inj.blk j).dn) :
    d.toNat * 10 ^ (400 + p).toNat = Inj.vl p10 j mm := by
  subst hi; subst hs
  have hm2 : 4611686018427387904 ≤ mm * 2 ^ (Inj.blk j).z := Nat.le_trans hm (Nat.sub_le _ _)
  exact hX _ _ _ _ h1 h2 h3 h4 (by omega) hm2 hm (Nat.le_trans hm2 (Nat.le_add_right _ _)) hO.hi0 (by have := hO.s0; omega) hO.s1 hO.i0
theorem pow_lo {j mm : Nat} (hj : j ≤ 52) (h0 : 2 ^ j ≤ mm) (h1 : mm ≤ 2 ^ (j + 1) - 1) : 9223372036854775808 ≤ mm * 2 ^ (63 - j) ∧ mm * 2 ^ (63 - j) + 2 ^ (63 - j) ≤ 18446744073709551616 := by
  have hp : (2 : Nat) ^ (j + 1) = 2 * 2 ^ j := Nat.pow_succ'
  have hp1 := Nat.two_pow_pos j
  constructor
  · have := Nat.mul_le_mul_right (2 ^ (63 - j)) h0
    rw [← Nat.pow_add, show j + (63 - j) = 63 by omega] at this
    exact this
  · have := Nat.mul_le_mul_right (2 ^ (63 - j)) (show mm + 1 ≤ 2 ^ (j + 1) by omega)
    rw [← Nat.pow_add, show j + 1 + (63 - j) = 64 by omega, Nat.add_mul, Nat.one_mul] at this
    exact this
theorem wraps (X T : Nat) (hT1 : 1 ≤ T) (h0 : 9223372036854775808 ≤ X) (h1 : X + 2 * T ≤ 18446744073709551616) (hT : T ≤ 4611686018427387904) :
    IntKind.u64.wrap ((X : Int) - IntKind.u64.wrap (T : Int)) = ((X - T : Nat) : Int) ∧ IntKind.u64.wrap ((X : Int) + IntKind.u64.wrap (T : Int)) = ((X + T : Nat) : Int) ∧ 4611686018427387904 ≤ X - T := by
  have hw : IntKind.u64.wrap (T : Int) = (T : Int) := by rw [IntKind.wrap_u64]; omega
  rw [hw]
  refine ⟨?_, ?_, by omega⟩
  · rw [IntKind.wrap_u64]; omega
  · rw [IntKind.wrap_u64]; omega
/-- What is said of the least numbers. -/
theorem vl_sub {j mm i s : Nat} {e d p m : Int} (hj : j < 52) (hI : Inj.In j mm) (hO : Inj.Ok p10 j) (hm : m = ((mm * 2 ^ (Inj.blk j).z : Nat) : Int)) (he : e = eOf j)
    (hi : (i : Int) = (-((e + (11 + (-1085 - e))) * 78913 / 262144)) + 348) (hs : (s : Int) = -(e + ((i : Int) - 348) * 108853 / 32768 + 3))
    (hX : XX i s (m) ((IntKind.u64.wrap (m - IntKind.u64.wrap (2 ^ ((11 + (-1085 - e)).toNat - 1))))) ((IntKind.u64.wrap (m + IntKind.u64.wrap (2 ^ ((11 + (-1085 - e)).toNat - 1))))) ((bits BinOp.and IntKind.i64 (wrap64 (m / 2 ^ (11 + (-1085 - e)).toNat)) 1)) d p) :
    d.toNat * 10 ^ (400 + p).toNat = Inj.vl p10 j mm := by
  have e1 : e = (j : Int) - 1137 := by rw [he]; unfold eOf; rw [if_pos (by omega)]
  have ez : (11 + (-1085 - e)).toNat = 63 - j := by omega
  have hb := Inj.blk_lo (show j ≤ 52 by omega)
  have hI1 := hI.2.1
  have hI2 := hI.2.2
  rw [hb] at hI1 hI2
  have hI1' : 2 ^ j ≤ mm := hI1
  have hI2' : mm ≤ 2 ^ (j + 1) - 1 := hI2
  obtain ⟨q1, q2⟩ := pow_lo (show j ≤ 52 by omega) hI1' hI2'
  have hzz : 2 ^ (63 - j) = 2 * 2 ^ (62 - j) := by rw [← Nat.pow_succ']; congr 1; omega
  have hT : 2 ^ (62 - j) ≤ 2 ^ 62 := Nat.pow_le_pow_right (by decide) (by omega)
  have hmz : m = ((mm * 2 ^ (63 - j) : Nat) : Int) := by rw [hm, hb]
  have hc : ((2 : Int) ^ (63 - j - 1)) = ((2 ^ (62 - j) : Nat) : Int) := by
    rw [show 63 - j - 1 = 62 - j by omega]
    push_cast
    rfl
  have hc2 : ((2 : Int) ^ (63 - j)) = ((2 ^ (63 - j) : Nat) : Int) := by push_cast; rfl
  have hmm : mm < 9223372036854775808 := by
    rw [hzz, ← Nat.mul_assoc, Nat.mul_comm mm 2, Nat.mul_assoc] at q2
    have h3 : mm ≤ mm * 2 ^ (62 - j) := Nat.le_mul_of_pos_right _ (Nat.two_pow_pos _)
    have h4 := Nat.two_pow_pos (62 - j)
    generalize mm * 2 ^ (62 - j) = R at *
    generalize 2 ^ (62 - j) = T at *
    clear hX hm hmz hc hc2 hI hb hI1 hI2 hI1' hI2' ez e1
    omega
  rw [hzz] at q2
  have hW := wraps (mm * 2 ^ (63 - j)) (2 ^ (62 - j)) (Nat.two_pow_pos _) q1 (by rw [hzz]; exact q2) hT
  have hdv : (m / 2 ^ (63 - j) : Int) = (mm : Int) := by
    rw [hc2, hmz, ← Int.natCast_ediv, Nat.mul_div_cancel _ (Nat.two_pow_pos _)]
  rw [ez, hdv, hc] at hX
  refine vl_of (m := m) hX hO ?_ ?_ hm ?_ ?_ ?_ ?_
  · rw [hb]; show i = 672; omega
  · rw [hb]; show s = 58 - j; omega
  · rw [hb, hmz]
    exact hW.1
  · rw [hb, hmz]
    show _ = ((mm * 2 ^ (63 - j) + 2 ^ (63 - j - 1) : Nat) : Int)
    rw [show 63 - j - 1 = 62 - j by omega]
    exact hW.2.1
  · rw [show wrap64 (mm : Int) = (mm : Int) by unfold wrap64; omega, odd_bit mm hmm]
  · rw [hb]
    exact hW.2.2
theorem short_ex (m : Nat) (hm0 : 9223372036854775808 ≤ m) (hm1 : m < 18446744073709551616) (e : Int) (he0 : -1137 ≤ e) (he1 : e ≤ 960) : ∃ d p : Int, (0 ≤ d ∧ d < 18446744073709551616 ∧ -400 ≤ p ∧ p ≤ 500) ∧
    (∀ j mm, Inj.In j mm → Inj.Ok p10 j → m = mm * 2 ^ (Inj.blk j).z → e = eOf j → d.toNat * 10 ^ (400 + p).toNat = Inj.vl p10 j mm) ∧
    ∀ (B : Nat) (ea : Addr) (w : World), Gv B ea w → Calls Tryz.prog 146 #[.int .u64 m, .int .i64 e] w fun ε w' => ε = .returned (.tuple #[.int .u64 d, .int .i64 p]) ∧ Fr [] w w' := by
  by_cases hm : m = 9223372036854775808
  · subst hm
    by_cases h1 : -1085 < e
    · obtain ⟨d, p, hb, ⟨i, s, hi, hs, hX⟩, hC⟩ := short_A e h1 he1
      refine ⟨d, p, hb, fun j mm hI hO hmm he => ?_, hC⟩
      have hj : ¬ j ≤ 52 := by
        intro h
        unfold eOf at he
        rw [if_pos h] at he
        omega
      have he' : e = ((2 + (j - 53) / 2 : Nat) : Int) - 1086 := by rw [he]; unfold eOf; rw [if_neg hj]
      have hj2 := hI.1
      by_cases hp : (j - 53) % 2 = 0
      · have hB := Inj.blk_sk hj hp
        have hI1 : 4503599627370496 ≤ mm := by have := hI.2.1; rw [hB] at this; exact this
        have hI2 : mm ≤ 4503599627370496 := by have := hI.2.2; rw [hB] at this; exact this
        obtain rfl : mm = 4503599627370496 := by omega
        have hi' : i = 1348 - ((2 + (j - 53) / 2) * 631305 + 1418237462) / 2097152 := by omega
        refine vl_of hX hO ?_ ?_ ?_ ?_ ?_ ?_ ?_
        · rw [hB]; exact hi'
        · rw [hB]
          show s = 3083 - (2 + (j - 53) / 2) - ((1348 - ((2 + (j - 53) / 2) * 631305 + 1418237462) / 2097152) * 108853 + 27655156) / 32768
          rw [← hi']
          omega
        · rw [hB]; show (9223372036854775808 : Int) = ((4503599627370496 * 2048 : Nat) : Int); omega
        · rw [hB]; show (9223372036854775296 : Int) = ((4503599627370496 * 2048 - 512 : Nat) : Int); omega
        · rw [hB]; show (9223372036854776832 : Int) = ((4503599627370496 * 2048 + 1024 : Nat) : Int); omega
        · exact odd_bit 4503599627370496 (by decide)
        · rw [hB]; show 4611686018427387904 ≤ 4503599627370496 * 2048 - 512; omega
      · have hB := Inj.blk_no hj hp
        have hI1 : 4503599627370497 ≤ mm := by have := hI.2.1; rw [hB] at this; exact this
        rw [hB] at hmm
        have : 9223372036854775808 = mm * 2 ^ 11 := hmm
        omega
    · by_cases h2 : e = -1085
      · obtain ⟨d, p, hb, ⟨i, s, hi, hs, hX⟩, hC⟩ := short_B e (by omega) (by omega)
        refine ⟨d, p, hb, fun j mm hI hO hmm he => ?_, hC⟩
        have hj : j = 52 := by
          unfold eOf at he
          split at he <;> omega
        subst hj
        have hB := Inj.blk_lo (show 52 ≤ 52 by omega)
        rw [hB] at hmm
        have hmm' : 9223372036854775808 = mm * 2 ^ 11 := hmm
        obtain rfl : mm = 4503599627370496 := by omega
        refine vl_of hX hO ?_ ?_ ?_ ?_ ?_ ?_ ?_
        · rw [hB]; show i = 672; omega
        · rw [hB]; show s = 6; omega
        · rw [hB]; show (9223372036854775808 : Int) = ((4503599627370496 * 2048 : Nat) : Int); omega
        · rw [hB]; show (9223372036854774784 : Int) = ((4503599627370496 * 2048 - 1024 : Nat) : Int); omega
        · rw [hB]; show (9223372036854776832 : Int) = ((4503599627370496 * 2048 + 1024 : Nat) : Int); omega
        · exact odd_bit 4503599627370496 (by decide)
        · rw [hB]; show 4611686018427387904 ≤ 4503599627370496 * 2048 - 1024; omega
      · obtain ⟨d, p, hb, ⟨i, s, hi, hs, hX⟩, hC⟩ := short_D e he0 (by omega)
        refine ⟨d, p, hb, fun j mm hI hO hmm he => ?_, hC⟩
        have hj : j < 52 := by
          unfold eOf at he
          split at he <;> omega
        exact vl_sub hj hI hO (by rw [← hmm]; rfl) he hi hs hX
  · by_cases h1 : -1085 ≤ e
    · obtain ⟨d, p, hb, ⟨i, s, hi, hs, hX⟩, hC⟩ := short_C m (by omega) (by omega) (by omega) e h1 he1
      refine ⟨d, p, hb, fun j mm hI hO hmm he => ?_, hC⟩
      have hj2 := hI.1
      by_cases hj : j ≤ 52
      · have hj52 : j = 52 := by
          unfold eOf at he
          rw [if_pos hj] at he
          omega
        subst hj52
        have hB := Inj.blk_lo (show 52 ≤ 52 by omega)
        have hI2 : mm ≤ 9007199254740991 := by have := hI.2.2; rw [hB] at this; exact this
        have hmm' : m = mm * 2048 := by rw [hB] at hmm; exact hmm
        have he' : e = -1085 := by rw [he]; unfold eOf; rw [if_pos hj]; rfl
        refine vl_of hX hO ?_ ?_ ?_ ?_ ?_ ?_ ?_
        · rw [hB]; show i = 672; omega
        · rw [hB]; show s = 6; omega
        · rw [hmm]
        · rw [hB]; show (m : Int) - 1024 = ((mm * 2048 - 1024 : Nat) : Int); omega
        · rw [hB]; show IntKind.u64.wrap ((m : Int) + 1024) = ((mm * 2048 + 1024 : Nat) : Int); rw [IntKind.wrap_u64]; omega
        · rw [show ((m : Int) / 2048) = (mm : Int) by omega]; exact odd_bit mm (by omega)
        · rw [hB]; show 4611686018427387904 ≤ mm * 2048 - 1024; omega
      · have he' : e = ((2 + (j - 53) / 2 : Nat) : Int) - 1086 := by rw [he]; unfold eOf; rw [if_neg hj]
        by_cases hp : (j - 53) % 2 = 0
        · have hB := Inj.blk_sk hj hp
          have hI1 : 4503599627370496 ≤ mm := by have := hI.2.1; rw [hB] at this; exact this
          have hI2 : mm ≤ 4503599627370496 := by have := hI.2.2; rw [hB] at this; exact this
          have hmm' : m = mm * 2048 := by rw [hB] at hmm; exact hmm
          omega
        · have hB := Inj.blk_no hj hp
          have hI2 : mm ≤ 9007199254740991 := by have := hI.2.2; rw [hB] at this; exact this
          have hmm' : m = mm * 2048 := by rw [hB] at hmm; exact hmm
          have hi' : i = 1348 - ((2 + (j - 53) / 2) * 78913 + 177312525) / 262144 := by omega
          refine vl_of hX hO ?_ ?_ ?_ ?_ ?_ ?_ ?_
          · rw [hB]; exact hi'
          · rw [hB]
            show s = 3083 - (2 + (j - 53) / 2) - ((1348 - ((2 + (j - 53) / 2) * 78913 + 177312525) / 262144) * 108853 + 27655156) / 32768
            rw [← hi']
            omega
          · rw [hmm]
          · rw [hB]; show (m : Int) - 1024 = ((mm * 2048 - 1024 : Nat) : Int); omega
          · rw [hB]; show IntKind.u64.wrap ((m : Int) + 1024) = ((mm * 2048 + 1024 : Nat) : Int); rw [IntKind.wrap_u64]; omega
          · rw [show ((m : Int) / 2048) = (mm : Int) by omega]; exact odd_bit mm (by omega)
          · rw [hB]; show 4611686018427387904 ≤ mm * 2048 - 1024; omega
    · obtain ⟨d, p, hb, ⟨i, s, hi, hs, hX⟩, hC⟩ := short_E m (by omega) (by omega) (by omega) e he0 (by omega)
      refine ⟨d, p, hb, fun j mm hI hO hmm he => ?_, hC⟩
      have hj : j < 52 := by
        unfold eOf at he
        split at he <;> omega
      exact vl_sub hj hI hO (by rw [← hmm]) he hi hs hX
end Go.Proofs.YtaaogjhaokaggaaGreatDoor
namespace Go.Proofs.YtaaogjhaokaggaaGreatDoor
open Go.RowKit Go.Sort Go.Lib

/-- The digits of d, d = 0 having none. -/
def nD (d : Nat) : Nat := if d = 0 then 0 else nDigits d
def digs (d : Nat) : List UInt8 := (List.range (nD d)).map fun t => dg d (nD d - 1 - t)
/-- The trailing zeros off. -/
def trimZ (l : List UInt8) : List UInt8 := (l.reverse.dropWhile (· == 48)).reverse
def dig (d : Nat) : List UInt8 := trimZ (digs d)
theorem digs_length (d : Nat) : (digs d).length = nD d := by simp [digs]
theorem nD_le (d : Nat) (hd : d < 18446744073709551616) : nD d ≤ 20 := by
  unfold nD
  split
  · omega
  · exact nDigits_le20 d hd
theorem lt_nD (d : Nat) : d < 10 ^ nD d := by
  unfold nD
  split
  · next h => subst h; decide
  · exact lt_pow_nDigits d
theorem trimZ_zero (l : List UInt8) : trimZ (l ++ [48]) = trimZ l := by simp [trimZ]
theorem trimZ_other (l : List UInt8) (c : UInt8) (h : c ≠ 48) : trimZ (l ++ [c]) = l ++ [c] := by simp [trimZ, h]
theorem trimZ_nil : trimZ [] = [] := rfl
theorem trimZ_prefix (l : List UInt8) : ∃ m, l = trimZ l ++ m := by
  refine ⟨(l.reverse.takeWhile (· == 48)).reverse, ?_⟩
  unfold trimZ
  rw [← List.reverse_append, List.takeWhile_append_dropWhile, List.reverse_reverse]
theorem dig_length_le (d : Nat) : (dig d).length ≤ nD d := by
  obtain ⟨m, hm⟩ := trimZ_prefix (digs d)
  have := congrArg List.length hm
  rw [digs_length, List.length_append] at this
  unfold dig
  omega

theorem Dg.pre {w : World} {g : Nat} {l m : List UInt8} (h : Dg w g l) (hp : ∃ r, l = m ++ r) : Dg w g m := by
  obtain ⟨r, rfl⟩ := hp
  obtain ⟨cs, T, h1, h2, h3⟩ := h
  refine ⟨cs, T, h1, h2, fun i hi => ?_⟩
  rw [h3 i (by simp; omega), List.getElem_append_left hi]
abbrev encB : UInt8 → Value := fun b => Value.int .u8 (b.toNat : Int)
theorem onRow (w : World) (g : Nat) (dk : Array UInt8) (n : Nat) (cs : Array Value) (T : TypeId) (h : w.heap[g]? = some (.cells cs T (0, 0))) :
    ((putRow encB w g 0 dk).drewN n).heap[g]? = some (.cells (putCells encB 0 dk cs) T (0, 0)) := by
  show (mapBlock w g (putCells encB 0 dk)).heap[g]? = _
  simp [mapBlock, Array.getElem?_modify, h, onCells]
theorem fr_putRow (w : World) (g : Nat) (dk : Array UInt8) (n : Nat) : Fr [g] w ((putRow encB w g 0 dk).drewN n) := by
  refine ⟨rfl, rfl, rfl, by simp, fun k hk hs => ?_⟩
  show (mapBlock w g (putCells encB 0 dk)).heap[k]? = _
  have : g ≠ k := fun e => hs (by simp [e])
  simp [mapBlock, Array.getElem?_modify, this]

theorem fmt_any (d : Nat) (hd : d < 18446744073709551616) (g : Nat) (w : World) (cs : Array Value) (T : TypeId) (hg : w.heap[g]? = some (.cells cs T (0, 0))) (hs : cs.size = 32) (hz : ∀ j, j < 32 → cs[j]? = some (.int .u8 0)) :
    Calls Tryz.prog 97 #[.slice (some ⟨g, 0, none⟩) (nD d) 32, .int .u64 d] w fun e w' => e = .returned (.tuple #[]) ∧ Dg w' g (digs d) ∧ Fr [g] w w' := by
  have h20 := nD_le d hd
  have hH : Holds encB w g 0 (Array.replicate (nD d) 0) := fun j hj => by
    rw [Array.size_replicate] at hj
    refine ⟨?_, ?_⟩
    · rw [Nat.zero_add, cell_of_row w g j cs T (0, 0) hg, hz j (by omega)]
      simp [encB, hj]
    · rw [Nat.zero_add]; exact frozen_of_row w g j cs T hg
  have h := Tryz.internal_strconv_formatBase10 g 0 32 d (Array.replicate (nD d) 0) w hH (by rw [Array.size_replicate]; exact lt_nD d) hd (by rw [Array.size_replicate]; omega)
  rw [Array.size_replicate] at h
  refine h.mono ?_
  rintro e w' ⟨rfl, n, v', dk, rfl, hF⟩
  refine ⟨rfl, ⟨_, T, onRow w g dk n cs T hg, by simp [putCells, hs], fun i hi => ?_⟩, fr_putRow w g dk n⟩
  rw [digs_length] at hi
  have h1 := hF.done i (Nat.zero_le _) hi
  have h2 := hF.size
  simp only [putCells, Array.getElem?_mapIdx, hz i (by omega), Option.map_some]
  rw [if_pos (by omega)]
  simp only [Nat.sub_zero, h1]
  simp [bv, encB, digs]

set_option maxRecDepth 100000 in
set_option maxHeartbeats 1000000 in
theorem setDigits_any (d : Nat) (hd : d < 18446744073709551616) (p : Int) (hp0 : -500 ≤ p) (hp1 : p ≤ 500) (g : Nat) (w : World) (cs : Array Value) (T : TypeId) (hg : w.heap[g]? = some (.cells cs T (0, 0))) (hs : cs.size = 32) (hz : ∀ j, j < 32 → cs[j]? = some (.int .u8 0)) :
    Calls Tryz.prog 141 #[.slice (some ⟨g, 0, none⟩) 32 32, .int .u64 d, .int .i64 p, .int .i64 (nD d)] w fun e w' => e = .returned (.tuple #[.int .i64 ((nD d : Int) + p), .int .i64 (dig d).length]) ∧ Dg w' g (dig d) ∧ Fr [g] w w' := by
  have hf := Lib.hid (fmt_any d hd g w cs T hg hs hz)
  have h20 := nD_le d hd
  have HLD := Lib.hid (digs_length d)
  obtain ⟨N, hN⟩ : ∃ N, N = nD d := ⟨_, rfl⟩
  rw [← hN] at hf h20 HLD ⊢
  have HD := Lib.hid hN
  clear hN hg hs hz
  obtain ⟨R, hR⟩ : ∃ R, R = (dig d).length := ⟨_, rfl⟩
  rw [← hR]
  have HR := Lib.hid hR; clear hR
  have h32 : decide ((N : Int) ≤ 32) = true := decide_eq_true (by omega)
  go_enter Tryz.func141, Tryz.ntmps141
  go_wp2_with (go_at_call 97; refine hf.out.mono ?_; rintro e w1 ⟨rfl, hdg, hf1⟩; have HDG := Lib.hid hdg; have HF := Lib.hid hf1; clear hdg hf1)
  go_loopw [3] (fun i wr => ∃ k : Nat, k ≤ N ∧ i = .int .i64 k ∧ Hid (trimZ ((digs d).take k) = dig d) ∧ wr = w1) (fun i _ => (RowKit.intOf i).toNat)
  case atStart => exact ⟨N, Nat.le_refl _, rfl, Lib.hid (by rw [List.take_of_length_le (by rw [HLD.out]; exact Nat.le_refl _)]; rfl), rfl⟩
  case round =>
    obtain ⟨k, hk, rfl, H, rfl⟩ := hrel
    cases k with
    | zero =>
      have hnil : dig d = [] := by have := H.out; simpa [trimZ] using this.symm
      have HNIL := Lib.hid hnil
      have hl0 : R = 0 := by rw [HR.out, hnil]; rfl
      have HL0 := Lib.hid hl0
      clear hnil hl0
      go_wp2_with fail
      go_ret2
      rw [HNIL.out, HL0.out]
      exact ⟨rfl, HDG.out.pre ⟨digs d, rfl⟩, HF.out⟩
    | succ k =>
      have hlt : k < (digs d).length := by rw [HLD.out]; omega
      have hc := HDG.out.cell (i := k) hlt
      obtain ⟨c, hcc⟩ : ∃ c, c = (digs d)[k] := ⟨_, rfl⟩
      have hts : (digs d).take (k + 1) = (digs d).take k ++ [c] := by rw [hcc]; exact List.take_succ_eq_append_getElem _
      have HTS := Lib.hid hts
      rw [← hcc] at hc
      by_cases h48 : c = 48
      · have hc2 : wr.cell? ⟨g, k, none⟩ = some (.int .u8 48) := by rw [hc, h48]; rfl
        clear hc hts hlt hcc
        go_wp2_with fail
        go_roundw
        case rel => exact ⟨k, by omega, by go_num, Lib.hid (by have := H.out; rw [HTS.out, h48, trimZ_zero] at this; exact this), trivial⟩
        case measure => simp [RowKit.intOf]; try omega
      · obtain ⟨CI, hCI⟩ : ∃ CI : Int, CI = (c.toNat : Int) := ⟨_, rfl⟩
        have hne : (CI == 48) = false := by
          rw [beq_eq_false_iff_ne, hCI]
          intro h
          exact h48 (UInt8.toNat_inj.1 (by simpa using Int.ofNat.inj h))
        have hc2 : wr.cell? ⟨g, k, none⟩ = some (.int .u8 CI) := by rw [hc, hCI]; rfl
        have hdig : dig d = (digs d).take (k + 1) := by have := H.out; rw [hts, trimZ_other _ _ h48] at this; rw [hts]; exact this.symm
        have HDIG := Lib.hid hdig
        have hln : R = k + 1 := by rw [HR.out, hdig]; simp; omega
        have HLN := Lib.hid hln
        clear hc hts hlt hcc hdig hln hCI
        have H48 := Lib.hid h48; clear h48
        go_wp2_with fail
        go_ret2
        rw [HDIG.out, HLN.out]
        exact ⟨rfl, HDG.out.pre ⟨(digs d).drop (k + 1), (List.take_append_drop _ _).symm⟩, HF.out⟩
set_option maxRecDepth 100000 in
theorem numDigits_any (d : Nat) (hd : d < 18446744073709551616) {B : Nat} {ea : Addr} (w : World) (hG : Gv B ea w) :
    Calls Tryz.prog 96 #[.int .u64 d] w fun e w' => e = .returned (.int .i64 (nD d)) ∧ w' = w := by
  by_cases h : d = 0
  · subst h
    have h1 : ∀ w, Calls Tryz.prog 126 #[.int .u64 0] w fun e w' => e = .returned (.int .i64 0) ∧ w' = w := fun w => by
      have := Tryz.bits_Len64 0 w (by decide) (by decide)
      rw [show Lib.bitLen (0 : Int).toNat = 0 from rfl] at this
      exact this
    have h2 : ∀ w, Calls Tryz.prog 125 #[.int .i64 0] w fun e w' => e = .returned (.int .i64 0) ∧ w' = w := fun w => by
      have := Tryz.internal_strconv_log10Pow2 0 (by decide) w
      exact this
    have H1 := Lib.hid h1
    have H2 := Lib.hid h2
    have hc : w.cell? ⟨1, 0, none⟩ = some (.int .u64 1) := by
      have := hG.pow.cell gPow 0 (by decide)
      exact this
    clear h1 h2
    rw [show nD 0 = 0 from rfl]
    go_enter Tryz.func96, Tryz.ntmps96
    go_wp2_with (first
      | (go_at_call 126; refine (H1.out _).mono ?_; rintro e w1 ⟨rfl, rfl⟩)
      | (go_at_call 125; refine (H2.out _).mono ?_; rintro e w1 ⟨rfl, rfl⟩)
      | (go_at_call 127; refine (Tryz.internal_strconv_bool2_int _ _).mono ?_; rintro e w1 ⟨rfl, rfl⟩))
    go_ret
    exact ⟨rfl, rfl⟩
  · have h1 := Tryz.internal_strconv_numDigits d (by omega) hd w hG.pow
    unfold nD
    rw [if_neg h]
    exact h1
end Go.Proofs.YtaaogjhaokaggaaGreatDoor
