/- PROVED HERE: strconv.AppendFloat with the format 'f', the shortest digits, 64 bits: of each double some text, the same in every world. CONDITIONS: those ahead of each theorem. -/
import Derived.Test.YtpkkgngpjeoffaaGreatDoorFtR
namespace Go.Proofs.YtpkkgngpjeoffaaGreatDoor
open Go.RowKit

theorem fText_len (neg : Bool) (ds : List UInt8) (dp : Int) (h : ds.length ≤ 20) (h0 : -1000 ≤ dp) (h1 : dp ≤ 1000) : (fText neg ds dp).length ≤ 3000 := by
  unfold fText
  simp only [List.length_append]
  have h1 : (if neg = true then [(45 : UInt8)] else []).length ≤ 1 := by split <;> simp
  have h2 : (if 0 < dp then ds.take dp.toNat ++ List.replicate (dp.toNat - ds.length) (48 : UInt8) else [48]).length ≤ 1030 := by split <;> simp <;> omega
  have h3 : (if dp < ds.length then [(46 : UInt8)] ++ List.replicate (-dp).toNat 48 ++ ds.drop dp.toNat else []).length ≤ 1030 := by split <;> simp <;> omega
  omega
set_option maxRecDepth 100000 in
set_option maxHeartbeats 2000000 in
/-- What is not a finite number. -/
theorem ftoa_odd (n : Nat) (hn : n < 18446744073709551616) (hE : n / 4503599627370496 % 2048 = 2047) : ∃ r : List UInt8, r.length ≤ 3000 ∧ ∀ (buf : Value) (l : List UInt8) (w : World), Own w 5 buf l → l.length ≤ 900000000 →
    Calls Tryz.prog 113 #[buf, .float .f64 n, .int .u8 102, .int .i64 (-1)] w (App w buf (l ++ r)) := by
  have hb := fun w => run_bits124 w n
  have hE2 : bits .and .i64 ((n : Int) / 4503599627370496) 2047 = 2047 := by rw [fE n hn, hE]; rfl
  have hM := fM n hn
  obtain ⟨M, hMd⟩ : ∃ M, M = n % 4503599627370496 := ⟨_, rfl⟩
  rw [← hMd] at hM
  clear hMd hE
  by_cases hM0 : M = 0
  · have hm : ((M : Int) == 0) = true := by rw [hM0]; rfl
    have hm2 : ((M : Int) != 0) = false := by rw [hM0]; rfl
    obtain ⟨neg, hneg⟩ : ∃ neg : Bool, ((n : Int) / 9223372036854775808 != 0) = neg := ⟨_, rfl⟩
    subst hM0
    cases neg with
    | true =>
      refine ⟨[45, 73, 110, 102], by simp, fun buf l w hO hl => ?_⟩
      have HO := Lib.hid hO
      clear hO
      go_enter Tryz.func113, Tryz.ntmps113
      go_wp2_with fail
      go_quiet (fail)
      go_wp2_with (at_builtin; refine wpAppS _ rfl (.tmp 73) (.const (.string ⟨#[45, 73, 110, 102]⟩)) 9 rfl buf l [45, 73, 110, 102] _ rfl rfl (HO.out.fr ((Fr.refl [] _).drewN nq) (fun _ _ => List.not_mem_nil)) (srcStr _ ⟨#[45, 73, 110, 102]⟩) (by simp; omega) ?_; intro v1 w1 ho1 hs1; have HO1 := Lib.hid ho1; have HS1 := Lib.hid hs1; clear ho1 hs1)
      go_ret
      exact App.pre ((Fr.refl _ _).drewN nq) ⟨v1, rfl, HO1.out, HS1.out⟩
    | false =>
      refine ⟨[43, 73, 110, 102], by simp, fun buf l w hO hl => ?_⟩
      have HO := Lib.hid hO
      clear hO
      go_enter Tryz.func113, Tryz.ntmps113
      go_wp2_with fail
      go_quiet (fail)
      go_wp2_with (at_builtin; refine wpAppS _ rfl (.tmp 75) (.const (.string ⟨#[43, 73, 110, 102]⟩)) 9 rfl buf l [43, 73, 110, 102] _ rfl rfl (HO.out.fr ((Fr.refl [] _).drewN nq) (fun _ _ => List.not_mem_nil)) (srcStr _ ⟨#[43, 73, 110, 102]⟩) (by simp; omega) ?_; intro v1 w1 ho1 hs1; have HO1 := Lib.hid ho1; have HS1 := Lib.hid hs1; clear ho1 hs1)
      go_ret
      exact App.pre ((Fr.refl _ _).drewN nq) ⟨v1, rfl, HO1.out, HS1.out⟩
  · have hm : ((M : Int) == 0) = false := by rw [beq_eq_false_iff_ne]; omega
    have hm2 : ((M : Int) != 0) = true := by simp; omega
    have hm3 : ¬ (M : Int) = 0 := by omega
    refine ⟨[78, 97, 78], by simp, fun buf l w hO hl => ?_⟩
    have HO := Lib.hid hO
    clear hO hM0
    go_enter Tryz.func113, Tryz.ntmps113
    go_wp2_with fail
    go_quiet (fail)
    go_wp2_with (at_builtin; refine wpAppS _ rfl (.tmp 70) (.const (.string ⟨#[78, 97, 78]⟩)) 9 rfl buf l [78, 97, 78] _ rfl rfl (HO.out.fr ((Fr.refl [] _).drewN nq) (fun _ _ => List.not_mem_nil)) (srcStr _ ⟨#[78, 97, 78]⟩) (by simp; omega) ?_; intro v1 w1 ho1 hs1; have HO1 := Lib.hid ho1; have HS1 := Lib.hid hs1; clear ho1 hs1)
    go_ret
    exact App.pre ((Fr.refl _ _).drewN nq) ⟨v1, rfl, HO1.out, HS1.out⟩
theorem ftoa_fin (n : Nat) (hn : n < 18446744073709551616) (hf : n / 4503599627370496 % 2048 ≠ 2047) : ∃ r : List UInt8, r.length ≤ 3000 ∧ ∀ (B : Nat) (ea : Addr) (buf : Value) (l : List UInt8) (w : World), Gp B ea w → Own w 5 buf l → l.length ≤ 900000000 →
    Calls Tryz.prog 113 #[buf, .float .f64 n, .int .u8 102, .int .i64 (-1)] w (App w buf (l ++ r)) := by
  by_cases h0 : n % 9223372036854775808 = 0
  · exact ⟨_, by cases ((n : Int) / 9223372036854775808 != 0) <;> decide, fun B ea buf l w _ hO hl => ftoa_zero _ n hn h0 rfl buf l w hO hl⟩
  · have hE := fE n hn
    have hM := fM n hn
    by_cases hE0 : n / 4503599627370496 % 2048 = 0
    · rw [hE0] at hE
      obtain ⟨k, hk⟩ : ∃ k, k = Nat.log2 (n % 4503599627370496) := ⟨_, rfl⟩
      have hM0 : n % 4503599627370496 ≠ 0 := by omega
      have hk0 : 2 ^ k ≤ n % 4503599627370496 := by rw [hk]; exact Nat.log2_self_le hM0
      have hk1 : n % 4503599627370496 < 2 ^ (k + 1) := by rw [hk]; exact Nat.lt_log2_self
      have hk52 : k < 52 := by
        apply Nat.lt_of_not_le
        intro h
        have : 2 ^ 52 ≤ 2 ^ k := Nat.pow_le_pow_right (by decide) h
        omega
      have hL := bitLen_of _ k hk0 hk1 (by omega)
      obtain ⟨M, hMd⟩ : ∃ M, M = n % 4503599627370496 := ⟨_, rfl⟩
      rw [← hMd] at hL hM hM0 hk0 hk1
      have hp : 2 ^ k * 2 ^ (63 - k) = 9223372036854775808 := by rw [← Nat.pow_add, show k + (63 - k) = 63 by omega]
      have hp2 : 2 ^ (k + 1) * 2 ^ (63 - k) = 18446744073709551616 := by rw [← Nat.pow_add, show k + 1 + (63 - k) = 64 by omega]
      have hpos : 0 < 2 ^ (63 - k) := Nat.two_pow_pos _
      have hm0 : 9223372036854775808 ≤ M * 2 ^ (63 - k) := by rw [← hp]; exact Nat.mul_le_mul_right _ hk0
      have hm1 : M * 2 ^ (63 - k) < 18446744073709551616 := by rw [← hp2]; exact Nat.mul_lt_mul_of_pos_right hk1 hpos
      obtain ⟨d, p, ⟨hd0, hd1, hp0, hp1⟩, hsh⟩ := short_ex (M * 2 ^ (63 - k)) hm0 hm1 (-1074 - ((63 - k : Nat) : Int)) (by omega) (by omega)
      obtain ⟨d, rfl⟩ := Int.eq_ofNat_of_zero_le hd0
      refine ⟨_, fText_len _ _ _ (Nat.le_trans (dig_length_le d) (nD_le d (by omega))) (by have := nD_le d (by omega); omega) (by have := nD_le d (by omega); omega), fun B ea buf l w hG hO hl => ftoa_sub _ n M (63 - k) d p (by omega) (by omega) (by omega) (by omega) (by rw [hL]; omega) hm1 (by omega) hp0 hp1 rfl (by rw [hE]; rfl) hM hn (B := B) (ea := ea) (fun w hG => ?_) buf l w hG hO hl⟩
      have := hsh B ea w hG
      rw [show IntKind.u64.wrap ((M : Int) * 2 ^ (63 - k)) = ((M * 2 ^ (63 - k) : Nat) : Int) by
        have e : ((M : Int) * 2 ^ (63 - k)) = ((M * 2 ^ (63 - k) : Nat) : Int) := by push_cast; rfl
        rw [e, IntKind.wrap_u64]; omega]
      exact this
    · obtain ⟨E, hEd⟩ : ∃ E, E = n / 4503599627370496 % 2048 := ⟨_, rfl⟩
      obtain ⟨M, hMd⟩ : ∃ M, M = n % 4503599627370496 := ⟨_, rfl⟩
      rw [← hEd] at hE
      rw [← hMd] at hM
      obtain ⟨d, p, ⟨hd0, hd1, hp0, hp1⟩, hsh⟩ := short_ex ((M + 4503599627370496) * 2048) (by omega) (by omega) ((E : Int) - 1086) (by omega) (by omega)
      obtain ⟨d, rfl⟩ := Int.eq_ofNat_of_zero_le hd0
      refine ⟨_, fText_len _ _ _ (Nat.le_trans (dig_length_le d) (nD_le d (by omega))) (by have := nD_le d (by omega); omega) (by have := nD_le d (by omega); omega), fun B ea buf l w hG hO hl => ftoa_norm _ n E M (M + 4503599627370496) d p (by omega) (by omega) (by omega) (by omega) (by omega) hp0 hp1 rfl hE hM (fOr M (by omega)) hn (B := B) (ea := ea) (fun w hG => ?_) buf l w hG hO hl⟩
      have := hsh B ea w hG
      rw [show ((M + 4503599627370496 : Nat) : Int) * 2048 = (((M + 4503599627370496) * 2048 : Nat) : Int) by omega]
      exact this


theorem ftoa_ex (n : Nat) (hn : n < 18446744073709551616) : ∃ r : List UInt8, r.length ≤ 3000 ∧ ∀ (B : Nat) (ea : Addr) (buf : Value) (l : List UInt8) (w : World), Gp B ea w → Own w 5 buf l → l.length ≤ 900000000 →
    Calls Tryz.prog 113 #[buf, .float .f64 n, .int .u8 102, .int .i64 (-1)] w (App w buf (l ++ r)) := by
  by_cases hE : n / 4503599627370496 % 2048 = 2047
  · obtain ⟨r, h1, h2⟩ := ftoa_odd n hn hE
    exact ⟨r, h1, fun _ _ buf l w _ hO hl => h2 buf l w hO hl⟩
  · exact ftoa_fin n hn hE
/-- What is written of a double. -/
noncomputable def fTx (n : Nat) : List UInt8 := if h : n < 18446744073709551616 then Classical.choose (ftoa_ex n h) else []
theorem fTx_len (n : Nat) : (fTx n).length ≤ 3000 := by
  unfold fTx
  split
  · rename_i h; exact (Classical.choose_spec (ftoa_ex n h)).1
  · simp
theorem ftoa_any (n : Nat) (hn : n < 18446744073709551616) (B : Nat) (ea : Addr) (buf : Value) (l : List UInt8) (w : World) (hG : Gp B ea w) (hO : Own w 5 buf l) (hl : l.length ≤ 900000000) :
    Calls Tryz.prog 113 #[buf, .float .f64 n, .int .u8 102, .int .i64 (-1)] w (App w buf (l ++ fTx n)) := by
  have := (Classical.choose_spec (ftoa_ex n hn)).2 B ea buf l w hG hO hl
  unfold fTx
  rw [dif_pos hn]
  exact this
theorem appendFloat_any (n : Nat) (hn : n < 18446744073709551616) (B : Nat) (ea : Addr) (buf : Value) (l : List UInt8) (w : World) (hG : Gp B ea w) (hO : Own w 5 buf l) (hl : l.length ≤ 900000000) :
    Calls Tryz.prog 88 #[buf, .float .f64 n, .int .u8 102, .int .i64 (-1), .int .i64 64] w (App w buf (l ++ fTx n)) := by
  have HF := Lib.hid (ftoa_any n hn B ea buf l w hG hO hl)
  have H2 : Hid (Calls Tryz.prog 100 #[buf, .float .f64 n, .int .u8 102, .int .i64 (-1), .int .i64 64] w (App w buf (l ++ fTx n))) := Lib.hid (by
    clear hG hO hl hn
    go_enter Tryz.func100, Tryz.ntmps100
    go_wp2_with (go_at_call 113; refine HF.out.mono ?_; rintro e w1 ⟨d, rfl, ho1, hs1⟩; have HO1 := Lib.hid ho1; have HS1 := Lib.hid hs1; clear ho1 hs1)
    go_ret
    exact App.mk HO1.out HS1.out)
  clear hG hO hl hn
  go_enter Tryz.func88, Tryz.ntmps88
  go_wp2_with (go_at_call 100; refine H2.out.mono ?_; rintro e w1 ⟨d, rfl, ho1, hs1⟩; have HO1 := Lib.hid ho1; have HS1 := Lib.hid hs1; clear ho1 hs1)
  go_ret
  exact App.mk HO1.out HS1.out
end Go.Proofs.YtpkkgngpjeoffaaGreatDoor
