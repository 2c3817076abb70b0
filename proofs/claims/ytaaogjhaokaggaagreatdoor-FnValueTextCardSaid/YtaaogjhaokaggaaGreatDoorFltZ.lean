import Derived.Test.YtaaogjhaokaggaaGreatDoorFtoa3
import Derived.Test.YtaaogjhaokaggaaGreatDoorFltV
namespace Go.Proofs.YtaaogjhaokaggaaGreatDoor
open Go.RowKit

theorem expD_len (x : Nat) : (expD x).length ≤ 3 := by
  unfold expD
  repeat' split
  all_goals simp
theorem gText_len (neg : Bool) (ds : List UInt8) (dp : Int) (h : ds.length ≤ 20) : (gText neg ds dp).length ≤ 100 := by
  unfold gText
  split
  · unfold eText
    have := expD_len (if ds = [] then 0 else (dp - 1).natAbs)
    simp only [List.length_append]
    have h1 : (if neg = true then [(45 : UInt8)] else []).length ≤ 1 := by split <;> simp
    have h2 : (if 2 ≤ ds.length then (46 : UInt8) :: ds.drop 1 else []).length ≤ 21 := by split <;> simp <;> omega
    have h3 : (if ds = [] ∨ 1 ≤ dp then [(43 : UInt8)] else [45]).length ≤ 1 := by split <;> simp
    simp only [List.length_cons, List.length_nil] at *
    omega
  · unfold fText
    simp only [List.length_append]
    have h1 : (if neg = true then [(45 : UInt8)] else []).length ≤ 1 := by split <;> simp
    have h2 : (if 0 < dp then ds.take dp.toNat ++ List.replicate (dp.toNat - ds.length) (48 : UInt8) else [48]).length ≤ 30 := by split <;> simp <;> omega
    have h3 : (if dp < ds.length then [(46 : UInt8)] ++ List.replicate (-dp).toNat 48 ++ ds.drop dp.toNat else []).length ≤ 30 := by split <;> simp <;> omega
    omega
theorem ftoa_ex (n : Nat) (hn : n < 18446744073709551616) (hf : fin64 n = true) : ∃ r : List UInt8, r.length ≤ 100 ∧ ∀ (B : Nat) (ea : Addr) (buf : Value) (l : List UInt8) (w : World), Gv B ea w → Own w 5 buf l → l.length ≤ 900000000 →
    Calls Tryz.prog 112 #[buf, .float .f64 n, .int .u8 103, .int .i64 (-1)] w (App w buf (l ++ r)) := by
  rw [fin64_iff] at hf
  by_cases h0 : n % 9223372036854775808 = 0
  · exact ⟨_, by cases ((n : Int) / 9223372036854775808 != 0) <;> decide, fun B ea buf l w _ hO hl => ftoa_zero _ n hn h0 rfl buf l w hO hl⟩
  · have hE := fE n hn
    have hM := fM n hn
    by_cases hE0 : n / 4503599627370496 % 2048 = 0
    · rw [hE0] at hE
      obtain ⟨k, hk⟩ : ∃ k, k = Nat.log2 (n % 4503599627370496) := ⟨_, rfl⟩
      have hM0 : n % 4503599627370496 ≠ 0 := by omega
      have hk0 : 2 ^ k ≤ n % 4503599627370496 := by rw [hk]; exact Nat.log2_self_le hM0
      have hk1 : n % 4503599627370496 < 2 ^ (k + 1) := by rw [hk]; exact Nat.lt_log2_self
      have hk52 : k < 52 := by
        apply Nat.lt_of_not_le
        intro h
        have : 2 ^ 52 ≤ 2 ^ k := Nat.pow_le_pow_right (by decide) h
        omega
      have hL := bitLen_of _ k hk0 hk1 (by omega)
      obtain ⟨M, hMd⟩ : ∃ M, M = n % 4503599627370496 := ⟨_, rfl⟩
      rw [← hMd] at hL hM hM0 hk0 hk1
      have hp : 2 ^ k * 2 ^ (63 - k) = 9223372036854775808 := by rw [← Nat.pow_add, show k + (63 - k) = 63 by omega]
      have hp2 : 2 ^ (k + 1) * 2 ^ (63 - k) = 18446744073709551616 := by rw [← Nat.pow_add, show k + 1 + (63 - k) = 64 by omega]
      have hpos : 0 < 2 ^ (63 - k) := Nat.two_pow_pos _
      have hm0 : 9223372036854775808 ≤ M * 2 ^ (63 - k) := by rw [← hp]; exact Nat.mul_le_mul_right _ hk0
      have hm1 : M * 2 ^ (63 - k) < 18446744073709551616 := by rw [← hp2]; exact Nat.mul_lt_mul_of_pos_right hk1 hpos
      obtain ⟨d, p, ⟨hd0, hd1, hp0, hp1⟩, hsh⟩ := short_ex (M * 2 ^ (63 - k)) hm0 hm1 (-1074 - ((63 - k : Nat) : Int)) (by omega) (by omega)
      obtain ⟨d, rfl⟩ := Int.eq_ofNat_of_zero_le hd0
      refine ⟨_, gText_len _ _ _ (Nat.le_trans (dig_length_le d) (nD_le d (by omega))), fun B ea buf l w hG hO hl => ftoa_sub _ n M (63 - k) d p (by omega) (by omega) (by omega) (by omega) (by rw [hL]; omega) hm1 (by omega) hp0 hp1 rfl (by rw [hE]; rfl) hM hn (B := B) (ea := ea) (fun w hG => ?_) buf l w hG hO hl⟩
      have := hsh B ea w hG
      rw [show IntKind.u64.wrap ((M : Int) * 2 ^ (63 - k)) = ((M * 2 ^ (63 - k) : Nat) : Int) by
        have e : ((M : Int) * 2 ^ (63 - k)) = ((M * 2 ^ (63 - k) : Nat) : Int) := by push_cast; rfl
        rw [e, IntKind.wrap_u64]; omega]
      exact this
    · obtain ⟨E, hEd⟩ : ∃ E, E = n / 4503599627370496 % 2048 := ⟨_, rfl⟩
      obtain ⟨M, hMd⟩ : ∃ M, M = n % 4503599627370496 := ⟨_, rfl⟩
      rw [← hEd] at hE
      rw [← hMd] at hM
      obtain ⟨d, p, ⟨hd0, hd1, hp0, hp1⟩, hsh⟩ := short_ex ((M + 4503599627370496) * 2048) (by omega) (by omega) ((E : Int) - 1086) (by omega) (by omega)
      obtain ⟨d, rfl⟩ := Int.eq_ofNat_of_zero_le hd0
      refine ⟨_, gText_len _ _ _ (Nat.le_trans (dig_length_le d) (nD_le d (by omega))), fun B ea buf l w hG hO hl => ftoa_norm _ n E M (M + 4503599627370496) d p (by omega) (by omega) (by omega) (by omega) (by omega) hp0 hp1 rfl hE hM (fOr M (by omega)) hn (B := B) (ea := ea) (fun w hG => ?_) buf l w hG hO hl⟩
      have := hsh B ea w hG
      rw [show ((M + 4503599627370496 : Nat) : Int) * 2048 = (((M + 4503599627370496) * 2048 : Nat) : Int) by omega]
      exact this

/-- What is written of a number. -/
noncomputable def fTx (n : Nat) : List UInt8 := if h : n < 18446744073709551616 ∧ fin64 n = true then Classical.choose (ftoa_ex n h.1 h.2) else []
def finOk (n : Nat) : Prop := n < 18446744073709551616 ∧ fin64 n = true
theorem ftoa_any (n : Nat) (h : finOk n) : ∀ (B : Nat) (ea : Addr) (buf : Value) (l : List UInt8) (w : World), Gv B ea w → Own w 5 buf l → l.length ≤ 900000000 →
    Calls Tryz.prog 112 #[buf, .float .f64 n, .int .u8 103, .int .i64 (-1)] w (App w buf (l ++ fTx n)) := by
  have e : fTx n = Classical.choose (ftoa_ex n h.1 h.2) := dif_pos h
  rw [e]
  exact (Classical.choose_spec (ftoa_ex n h.1 h.2)).2

theorem fTx_len (n : Nat) : (fTx n).length ≤ 100 := by
  unfold fTx
  split
  · next h => exact (Classical.choose_spec (ftoa_ex n h.1 h.2)).1
  · simp
set_option maxRecDepth 100000 in
theorem appendFloat_105 (n : Nat) (h : finOk n) (B : Nat) (ea : Addr) (buf : Value) (l : List UInt8) (w : World) (hG : Gv B ea w) (hO : Own w 5 buf l) (hl : l.length ≤ 900000000) :
    Calls Tryz.prog 105 #[buf, .float .f64 n, .int .u8 103, .int .i64 (-1), .int .i64 64] w (App w buf (l ++ fTx n)) := by
  have H := Lib.hid (ftoa_any n h B ea buf l w hG hO hl)
  clear hO hG h
  go_enter Tryz.func105, Tryz.ntmps105
  go_wp2_with (go_at_call 112; refine H.out.mono ?_; rintro e w1 ⟨v1, rfl, ho1, hs1⟩; have HO1 := Lib.hid ho1; have HS1 := Lib.hid hs1; clear ho1 hs1)
  go_ret
  exact ⟨v1, rfl, HO1.out, HS1.out⟩
set_option maxRecDepth 100000 in
theorem floatSaid : FloatSaid fTx finOk := by
  intro B ea n buf l w hf hG hO hl _
  have H := Lib.hid (appendFloat_105 n hf B ea buf l w hG hO hl)
  clear hO hG hf
  go_enter Tryz.func66, Tryz.ntmps66
  go_wp2_with (go_at_call 105; refine H.out.mono ?_; rintro e w1 ⟨v1, rfl, ho1, hs1⟩; have HO1 := Lib.hid ho1; have HS1 := Lib.hid hs1; clear ho1 hs1)
  go_ret
  exact ⟨v1, rfl, HO1.out, HS1.out⟩
end Go.Proofs.YtaaogjhaokaggaaGreatDoor
