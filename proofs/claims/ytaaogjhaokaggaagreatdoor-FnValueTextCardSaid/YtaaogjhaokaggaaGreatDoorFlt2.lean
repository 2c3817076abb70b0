import Derived.Test.YtaaogjhaokaggaaGreatDoorFlt1
namespace Go.Proofs.YtaaogjhaokaggaaGreatDoor
open Go.RowKit

theorem Fr.drewN {S : List Nat} {a w : World} (h : Fr S a w) (n : Nat) : Fr S a (w.drewN n) := ⟨h.os, h.tape, h.output, h.size, h.block⟩
set_option maxRecDepth 100000 in
set_option maxHeartbeats 1000000 in
theorem uscale_ex (x hi lo : Nat) (hx : x < 18446744073709551616) (hh : hi < 18446744073709551616) (hl : lo < 18446744073709551616) (s : Int) (hs0 : 0 ≤ s) (hs1 : s < 64) :
    ∃ r : Int, ∀ (w : World) (b : Nat), w.heap[b]? = some (.cells #[.int .u64 hi, .int .u64 lo, .int .i64 s] 209 (0, 0)) → Calls Tryz.prog 168 #[.int .u64 x, .pointer (some ⟨b, 0, none⟩)] w fun e w' => e = .returned (.int .u64 r) ∧ Fr [] w w' := by
  have ha := and63 s hs0 hs1
  obtain ⟨H, M, hm1⟩ : ∃ H M : Int, ∀ w, Calls Tryz.prog 186 #[.int .u64 x, .int .u64 hi] w fun e w' => e = .returned (.tuple #[.int .u64 H, .int .u64 M]) ∧ w' = w := ⟨_, _, fun w => Tryz.bits_Mul64 x hi hx hh w⟩
  obtain ⟨H2, M2, hm2⟩ : ∃ H M : Int, ∀ w, Calls Tryz.prog 186 #[.int .u64 x, .int .u64 lo] w fun e w' => e = .returned (.tuple #[.int .u64 H, .int .u64 M]) ∧ w' = w := ⟨_, _, fun w => Tryz.bits_Mul64 x lo hx hl w⟩
  obtain ⟨B1, hb1⟩ : ∃ B : Int, ∀ w, Calls Tryz.prog 187 #[.bool (decide (M < H2))] w fun e w' => e = .returned (.int .u64 B) ∧ w' = w := ⟨_, fun w => b2_any _ w⟩
  obtain ⟨B2, hb2⟩ : ∃ B : Int, ∀ w, Calls Tryz.prog 187 #[.bool (decide (IntKind.u64.wrap (M - H2) > 1))] w fun e w' => e = .returned (.int .u64 B) ∧ w' = w := ⟨_, fun w => b2_any _ w⟩
  have HM1 := Lib.hid hm1
  have HM2 := Lib.hid hm2
  have HB1 := Lib.hid hb1
  have HB2 := Lib.hid hb2
  clear hm1 hm2 hb1 hb2
  cases hc : (IntKind.u64.wrap (H / 2 ^ s.toNat * 2 ^ s.toNat) != H) with
  | true =>
    apply Exists.intro
    intro w b hr
    have d0 := cell_of_row w b 0 _ 209 _ hr
    have d1 := cell_of_row w b 1 _ 209 _ hr
    have d2 := cell_of_row w b 2 _ 209 _ hr
    clear hr
    go_enter Tryz.func168, Tryz.ntmps168
    go_wp2_with (go_at_call 186; refine (HM1.out _).mono ?_; rintro e w1 ⟨rfl, rfl⟩)
    go_ret
    exact ⟨rfl, Fr.refl _ _⟩
  | false =>
    apply Exists.intro
    intro w b hr
    have d0 := cell_of_row w b 0 _ 209 _ hr
    have d1 := cell_of_row w b 1 _ 209 _ hr
    have d2 := cell_of_row w b 2 _ 209 _ hr
    clear hr
    go_enter Tryz.func168, Tryz.ntmps168
    go_wp2_with (first
      | (go_at_call_of 186 (Value.int .u64 hi); refine (HM1.out _).mono ?_; rintro e w1 ⟨rfl, rfl⟩)
      | (go_at_call 186; refine (HM2.out _).mono ?_; rintro e w1 ⟨rfl, rfl⟩)
      | (go_at_call 187; refine (HB1.out _).mono ?_; rintro e w1 ⟨rfl, rfl⟩))
    go_quiet ((go_at_call 187; exact Calls.quiet_of_same (HB2.out _)))
    go_wp2_with fail
    go_ret
    exact ⟨rfl, (Fr.refl _ _).drewN _⟩
end Go.Proofs.YtaaogjhaokaggaaGreatDoor
