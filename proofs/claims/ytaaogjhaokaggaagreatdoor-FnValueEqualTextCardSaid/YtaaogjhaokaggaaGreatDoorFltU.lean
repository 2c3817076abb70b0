import Derived.Test.YtaaogjhaokaggaaGreatDoorFltX
import Derived.Test.YtaaogjhaokaggaaGreatDoorInjA
namespace Go.Proofs.YtaaogjhaokaggaaGreatDoor
open Go.RowKit

theorem bit0 (x : Nat) (hx : x < 9223372036854775808) : bits .and .u64 (((x : Nat) : Int)) 1 = ((x % 2 : Nat) : Int) := by
  have h := bits_mask .u64 64 (by decide) (fun n a b => by rw [IntKind.wrap_u64]; omega) 1 (by decide) (x : Int) (by omega) (by omega)
  rw [show (1 : Int) = 2 ^ 1 - 1 by decide, h]
  omega
theorem wrap_nat (c : Nat) (h : c < 18446744073709551616) : IntKind.u64.wrap (c : Int) = (c : Int) := by rw [IntKind.wrap_u64]; omega
theorem bor1 (q : Nat) (h : q < 18446744073709551616) : bits .or .u64 (q : Int) 1 = ((Inj.orOne q : Nat) : Int) := by
  have h1 := (bits_nat .u64 64 (by decide) (fun n a b => by rw [IntKind.wrap_u64]; omega) q 1 (by omega) (by decide)).2
  have e : q ||| 1 = Inj.orOne q := by
    have h2 := Nat.two_pow_add_eq_or_of_lt (i := 1) (b := 1) (by decide) (q / 2)
    unfold Inj.orOne
    by_cases hq : q % 2 = 0
    · rw [if_pos hq]
      have : 2 ^ 1 * (q / 2) = q := by omega
      rw [this] at h2
      exact h2.symm
    · rw [if_neg hq]
      have : 2 ^ 1 * (q / 2) + 1 = q := by omega
      rw [this] at h2
      rw [h2, Nat.or_assoc, Nat.or_self]
  rw [e] at h1
  exact h1
theorem bor0 (q : Nat) (h : q < 18446744073709551616) : bits .or .u64 (q : Int) 0 = (q : Int) := by
  have h1 := (bits_nat .u64 64 (by decide) (fun n a b => by rw [IntKind.wrap_u64]; omega) q 0 (by omega) (by decide)).2
  rw [Nat.or_zero] at h1
  exact h1
theorem div_cast (h k : Nat) : ((h : Int) / 2 ^ k) = ((h / 2 ^ k : Nat) : Int) := by
  rw [show ((2 : Int) ^ k) = ((2 ^ k : Nat) : Int) by push_cast; rfl, ← Int.natCast_ediv]
theorem mul_cast (h k : Nat) : ((h : Int) * 2 ^ k) = ((h * 2 ^ k : Nat) : Int) := by push_cast; rfl
theorem round_e2 (u : Int) : ∃ r : Int, (0 ≤ r ∧ r < 18446744073709551616) ∧ (∀ c : Nat, u = (c : Int) → c ≤ 1152921504606846976 → r = (Inj.rnd c : Nat)) ∧ ∀ w, Calls Tryz.prog 172 #[.int .u64 u] w fun e w' => e = .returned (.int .u64 r) ∧ w' = w := by
  apply Exists.intro
  refine ⟨?hh, ?xx, fun w => ?cc⟩
  case cc =>
    go_enter Tryz.func172, Tryz.ntmps172
    go_wp2
    go_ret
    exact ⟨rfl, rfl⟩
  case hh =>
    rw [IntKind.wrap_u64]; omega
  case xx =>
    rintro c rfl hc
    rw [show ((c : Int) / 4) = ((c / 4 : Nat) : Int) by omega, bit0 (c / 4) (by omega), IntKind.wrap_u64, IntKind.wrap_u64]
    unfold Inj.rnd
    omega
set_option maxRecDepth 100000 in
set_option maxHeartbeats 1000000 in
theorem uscale_e2 (x hi lo : Nat) (hx : x < 18446744073709551616) (hh : hi < 18446744073709551616) (hl : lo < 18446744073709551616) (s : Int) (hs0 : 0 ≤ s) (hs1 : s < 64) :
    ∃ r : Int, (4611686018427387904 ≤ x → 9223372036854775808 ≤ hi → r = (Inj.usq hi lo s.toNat x : Nat)) ∧ ∀ (w : World) (b : Nat), w.heap[b]? = some (.cells #[.int .u64 hi, .int .u64 lo, .int .i64 s] 209 (0, 0)) → Calls Tryz.prog 168 #[.int .u64 x, .pointer (some ⟨b, 0, none⟩)] w fun e w' => e = .returned (.int .u64 r) ∧ Fr [] w w' := by
  have ha := and63 s hs0 hs1
  obtain ⟨H, M, hHM, hm1⟩ : ∃ H M : Int, (H = ((x * hi / 18446744073709551616 : Nat) : Int) ∧ M = ((x * hi % 18446744073709551616 : Nat) : Int)) ∧ ∀ w, Calls Tryz.prog 186 #[.int .u64 x, .int .u64 hi] w fun e w' => e = .returned (.tuple #[.int .u64 H, .int .u64 M]) ∧ w' = w := ⟨_, _, ⟨rfl, rfl⟩, fun w => Tryz.bits_Mul64 x hi hx hh w⟩
  obtain ⟨H2, M2, hHM2, hm2⟩ : ∃ H M : Int, (H = ((x * lo / 18446744073709551616 : Nat) : Int)) ∧ ∀ w, Calls Tryz.prog 186 #[.int .u64 x, .int .u64 lo] w fun e w' => e = .returned (.tuple #[.int .u64 H, .int .u64 M]) ∧ w' = w := ⟨_, _, rfl, fun w => Tryz.bits_Mul64 x lo hx hl w⟩
  obtain ⟨B1, hB1, hb1⟩ : ∃ B : Int, (B = if M < H2 then 1 else 0) ∧ ∀ w, Calls Tryz.prog 187 #[.bool (decide (M < H2))] w fun e w' => e = .returned (.int .u64 B) ∧ w' = w := ⟨_, by simp, fun w => b2_any _ w⟩
  obtain ⟨B2, hB2, hb2⟩ : ∃ B : Int, (B = if IntKind.u64.wrap (M - H2) > 1 then 1 else 0) ∧ ∀ w, Calls Tryz.prog 187 #[.bool (decide (IntKind.u64.wrap (M - H2) > 1))] w fun e w' => e = .returned (.int .u64 B) ∧ w' = w := ⟨_, by simp, fun w => b2_any _ w⟩
  have HM1 := Lib.hid hm1
  have HM2 := Lib.hid hm2
  have HB1 := Lib.hid hb1
  have HB2 := Lib.hid hb2
  have E1 := Lib.hid hHM
  have E2 := Lib.hid hHM2
  have E3 := Lib.hid hB1
  have E4 := Lib.hid hB2
  have HX := Lib.hid hx
  have HH := Lib.hid hh
  have HL := Lib.hid hl
  clear hm1 hm2 hb1 hb2 hHM hHM2 hB1 hB2 hx hh hl
  cases hc : (IntKind.u64.wrap (H / 2 ^ s.toNat * 2 ^ s.toNat) != H) with
  | true =>
    have HC := Lib.hid hc
    apply Exists.intro
    refine ⟨?xx, fun w b hr => ?cc⟩
    case cc =>
      have d0 := cell_of_row w b 0 _ 209 _ hr
      have d1 := cell_of_row w b 1 _ 209 _ hr
      have d2 := cell_of_row w b 2 _ 209 _ hr
      clear hr
      go_enter Tryz.func168, Tryz.ntmps168
      go_wp2_with (go_at_call 186; refine (HM1.out _).mono ?_; rintro e w1 ⟨rfl, rfl⟩)
      go_ret
      exact ⟨rfl, Fr.refl _ _⟩
    case xx =>
      intro hx hi0
      obtain ⟨e1, e2⟩ := E1.out
      have hb := Inj.m2_le x hi HX.out HH.out
      have ha := Inj.us_a hi lo s.toNat x HX.out HL.out
      generalize x * hi / 18446744073709551616 = h at *
      subst e1
      rw [div_cast] at HC ⊢
      have hq : h / 2 ^ s.toNat ≤ h := Nat.div_le_self _ _
      have hq2 : h / 2 ^ s.toNat * 2 ^ s.toNat ≤ h := Nat.div_mul_le_self _ _
      have hne : h / 2 ^ s.toNat * 2 ^ s.toNat ≠ h := by
        intro e
        have := HC.out
        rw [mul_cast, e, wrap_nat h (by omega)] at this
        simp at this
      rw [ha hne, bor1 _ (by omega)]
  | false =>
    have HC := Lib.hid hc
    apply Exists.intro
    refine ⟨?xx, fun w b hr => ?cc⟩
    case cc =>
      have d0 := cell_of_row w b 0 _ 209 _ hr
      have d1 := cell_of_row w b 1 _ 209 _ hr
      have d2 := cell_of_row w b 2 _ 209 _ hr
      clear hr
      go_enter Tryz.func168, Tryz.ntmps168
      go_wp2_with (first
        | (go_at_call_of 186 (Value.int .u64 hi); refine (HM1.out _).mono ?_; rintro e w1 ⟨rfl, rfl⟩)
        | (go_at_call 186; refine (HM2.out _).mono ?_; rintro e w1 ⟨rfl, rfl⟩)
        | (go_at_call 187; refine (HB1.out _).mono ?_; rintro e w1 ⟨rfl, rfl⟩))
      go_quiet ((go_at_call 187; exact Calls.quiet_of_same (HB2.out _)))
      go_wp2_with fail
      go_ret
      exact ⟨rfl, (Fr.refl _ _).drewN _⟩
    case xx =>
      intro hx hi0
      obtain ⟨e1, e2⟩ := E1.out
      have e3 := E2.out
      have hb := Inj.m2_le x hi HX.out HH.out
      have hb2 := Inj.m2_le x lo HX.out HL.out
      have hm := Nat.mod_lt (x * hi) (show 18446744073709551616 > 0 by decide)
      have h1 : 1 ≤ x * hi / 18446744073709551616 := by
        have : 4611686018427387904 * 9223372036854775808 ≤ x * hi := Nat.mul_le_mul hx hi0
        omega
      have hbb := Inj.us_b hi lo s.toNat x
      have hcc := fun a b => Inj.us_c hi lo s.toNat x HX.out HL.out a b h1
      have e4 := E3.out
      have e5 := E4.out
      generalize x * hi / 18446744073709551616 = h at *
      generalize x * hi % 18446744073709551616 = mm at *
      generalize x * lo / 18446744073709551616 = m2 at *
      subst e1; subst e2; subst e3
      have hq : h / 2 ^ s.toNat ≤ h := Nat.div_le_self _ _
      have hq2 : h / 2 ^ s.toNat * 2 ^ s.toNat ≤ h := Nat.div_mul_le_self _ _
      have heq : h / 2 ^ s.toNat * 2 ^ s.toNat = h := by
        have := HC.out
        rw [div_cast, mul_cast, wrap_nat _ (by omega), bne_eq_false_iff_eq] at this
        exact Int.ofNat.inj this
      by_cases hlt : mm < m2
      · rw [if_pos (by omega)] at e4
        have w1 : IntKind.u64.wrap ((mm : Int) - (m2 : Int)) = 18446744073709551616 + (mm : Int) - m2 := by rw [IntKind.wrap_u64]; omega
        rw [w1, if_pos (by omega)] at e5
        subst e4; subst e5
        have w2 : IntKind.u64.wrap ((h : Int) - 1) = ((h - 1 : Nat) : Int) := by rw [IntKind.wrap_u64]; omega
        have hq3 : (h - 1) / 2 ^ s.toNat ≤ h - 1 := Nat.div_le_self _ _
        rw [w2, div_cast, bor1 _ (by omega), hcc heq hlt]
      · rw [if_neg (by omega)] at e4
        have w1 : IntKind.u64.wrap ((mm : Int) - (m2 : Int)) = ((mm - m2 : Nat) : Int) := by rw [IntKind.wrap_u64]; omega
        rw [w1] at e5
        subst e4
        have w2 : IntKind.u64.wrap ((h : Int) - 0) = (h : Int) := by rw [IntKind.wrap_u64]; omega
        rw [w2, div_cast, hbb heq hlt]
        by_cases hg : mm - m2 > 1
        · rw [if_pos (by omega)] at e5
          subst e5
          rw [if_pos hg, bor1 _ (by omega)]
        · rw [if_neg (by omega)] at e5
          subst e5
          rw [if_neg hg, bor0 _ (by omega)]
end Go.Proofs.YtaaogjhaokaggaaGreatDoor
