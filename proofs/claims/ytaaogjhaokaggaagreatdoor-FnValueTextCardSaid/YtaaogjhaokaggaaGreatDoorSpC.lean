import Derived.Test.YtaaogjhaokaggaaGreatDoorSpB
import Derived.Test.YtaaogjhaokaggaaGreatDoorUtf1
import Derived.Test.YtaaogjhaokaggaaGreatDoorValP
namespace Go.Proofs.YtaaogjhaokaggaaGreatDoor
open Go.RowKit

/-- spec.CanBe. -/
def VD.can (d : VD) : Bool := if d.kind = 1 then Lib.validD d.s.data.toList else if d.kind = 4 then fin64 d.f else decide (d.kind = 2 ∨ d.kind = 3 ∨ d.kind = 5)

theorem rd_fin (n : Nat) (h : fin64 n = true) : ∃ s m i, FloatKind.f64.format.read n = .number s m i := by
  rw [fin64_iff] at h
  by_cases h0 : n % 9223372036854775808 < 4503599627370496
  · exact ⟨_, _, _, rd_small n h0⟩
  · exact ⟨_, _, _, rd_num n h0 h⟩
theorem sub_fin (n : Nat) (h : fin64 n = true) : FloatKind.f64.format.sub n n = some 0 := by
  obtain ⟨s, m, i, hr⟩ := rd_fin n h
  unfold Ieee.Format.sub
  rw [hr]
  simp only [Ieee.Datum.opposite, Ieee.Datum.sum]
  have e : Ieee.signed s m (i - min i i).toNat + Ieee.signed (!s) m (i - min i i).toNat = 0 := by
    cases s <;> simp [Ieee.signed] <;> omega
  rw [e]
  cases s <;> simp [Ieee.Format.write, Ieee.Format.nearest, Ieee.Format.word]
theorem sub_inf (n : Nat) (h : fin64 n = false) : FloatKind.f64.format.sub n n = none := by
  have h' : ¬ n % 9223372036854775808 < 9218868437227405312 := by rw [← fin64_iff, h]; decide
  unfold Ieee.Format.sub
  by_cases h1 : n % 9223372036854775808 = 9218868437227405312
  · rw [rd_inf n h1]
    cases (n / 9223372036854775808 % 2 == 1) <;> rfl
  · rw [rd_nan n (by omega)]
    rfl
def nanT (f : Nat) (w : World) : Nat := (Question.nanBits .f64 f f).cut (w.tape w.drawn (.nanBits .f64 f f))
theorem nanT_nan (f : Nat) (w : World) : (FloatKind.f64.format.order (nanT f w) 0 == some .eq) = false := by
  have h : 9218868437227405312 < nanT f w % 9223372036854775808 := by
    unfold nanT
    simp only [Question.cut]
    generalize w.tape w.drawn (.nanBits .f64 f f) = t
    have hr : t / 2 % (2 ^ 52 - 1) < 2 ^ 52 - 1 := Nat.mod_lt _ (by decide)
    generalize t / 2 % (2 ^ 52 - 1) = r at *
    rcases (show t % 2 = 0 ∨ t % 2 = 1 by omega) with e | e <;> rw [e] <;> omega
  show ((FloatKind.f64.format.read (nanT f w)).order _ == some .eq) = false
  rw [rd_nan _ h]
  rfl
theorem run_sub_fin (f : Nat) (h : fin64 f = true) (w : World) : (binOp .sub 23 (.float .f64 f) (.float .f64 f)).run Tryz.prog w = .ok (.float .f64 0) w :=
  run_float_arith (P := Tryz.prog) (w := w) .sub 23 .f64 f f 0 (sub_fin f h)
theorem run_sub_inf (f : Nat) (h : fin64 f = false) (w : World) : (binOp .sub 23 (.float .f64 f) (.float .f64 f)).run Tryz.prog w = .ok (.float .f64 (nanT f w)) w.drew := by
  have hs := sub_inf f h
  simp [binOp, Op.floatArith, hs, nanT, Question.forced]

set_option maxRecDepth 100000 in
theorem zzFits3_any (d : VD) (w : World) :
    Calls Tryz.prog 14 #[.agg d.cells] w fun e w' => e = .returned (.bool (decide (d.s.size ≤ 2147483647))) ∧ Fr [] w w' := by
  obtain ⟨k, s, n, u, f, x⟩ := d
  simp only [VD.cells]
  by_cases h : s.size ≤ 2147483647
  · have hi : (s.size : Int) ≤ 2147483647 := by omega
    rw [decide_eq_true h]
    go_enter Tryz.func14, Tryz.ntmps14
    go_wp2_with fail
    go_ret
    exact ⟨rfl, (Fr.refl _ _).alloc _⟩
  · have hi : (2147483647 : Int) < (s.size : Int) := by omega
    rw [decide_eq_false h]
    go_enter Tryz.func14, Tryz.ntmps14
    go_wp2_with fail
    go_ret
    exact ⟨rfl, (Fr.refl _ _).alloc _⟩
set_option maxRecDepth 100000 in
set_option maxHeartbeats 2000000 in
theorem canBe_any (d : VD) (hs : d.s.size ≤ 1000000000) (w : World) :
    Calls Tryz.prog 16 #[.agg d.cells] w fun e w' => e = .returned (.bool d.can) ∧ Fr [] w w' := by
  obtain ⟨k, s, n, u, f, x⟩ := d
  simp only [VD.cells, VD.can] at *
  by_cases h1 : k = 1
  · subst h1
    rw [if_pos rfl]
    have H := Lib.hid (fun w => specUtf8_any s hs w)
    go_enter Tryz.func16, Tryz.ntmps16
    go_wp2_with (go_at_call 33; refine (H.out _).mono ?_; rintro e w1 ⟨rfl, rfl⟩)
    go_ret
    exact ⟨rfl, (Fr.refl _ _).alloc _⟩
  rw [if_neg h1]
  by_cases h4 : k = 4
  · subst h4
    rw [if_pos rfl]
    cases hf : fin64 f with
    | true =>
      have hr := fun w => run_sub_fin f hf w
      clear hf
      go_enter Tryz.func16, Tryz.ntmps16
      go_wp2_with fail
      go_ret
      exact ⟨rfl, (Fr.refl _ _).alloc _⟩
    | false =>
      have hr := fun w => run_sub_inf f hf w
      have hn := fun w => nanT_nan f w
      clear hf
      go_enter Tryz.func16, Tryz.ntmps16
      go_wp2_with fail
      go_ret
      exact ⟨rfl, ((Fr.refl _ _).alloc _).drew⟩
  rw [if_neg h4]
  have k1 : (k == 1) = false := by rw [beq_eq_false_iff_ne]; exact h1
  have k4 : (k == 4) = false := by rw [beq_eq_false_iff_ne]; exact h4
  clear h1 h4
  by_cases h2 : k = 2
  · subst h2
    go_enter Tryz.func16, Tryz.ntmps16
    go_wp2_with fail
    go_ret
    exact ⟨rfl, (Fr.refl _ _).alloc _⟩
  by_cases h3 : k = 3
  · subst h3
    go_enter Tryz.func16, Tryz.ntmps16
    go_wp2_with fail
    go_ret
    exact ⟨rfl, (Fr.refl _ _).alloc _⟩
  by_cases h5 : k = 5
  · subst h5
    go_enter Tryz.func16, Tryz.ntmps16
    go_wp2_with fail
    go_ret
    exact ⟨rfl, (Fr.refl _ _).alloc _⟩
  have k2 : (k == 2) = false := by rw [beq_eq_false_iff_ne]; exact h2
  have k3 : (k == 3) = false := by rw [beq_eq_false_iff_ne]; exact h3
  have k5 : (k == 5) = false := by rw [beq_eq_false_iff_ne]; exact h5
  rw [decide_eq_false (by rintro (h | h | h); exact h2 h; exact h3 h; exact h5 h)]
  clear h2 h3 h5
  go_enter Tryz.func16, Tryz.ntmps16
  go_wp2_with fail
  go_ret
  exact ⟨rfl, (Fr.refl _ _).alloc _⟩
end Go.Proofs.YtaaogjhaokaggaaGreatDoor
