import Derived.Test.YtaaogjhaokaggaaGreatDoorFtoaX
import Derived.Test.YtaaogjhaokaggaaGreatDoorFltW
import Derived.Test.YtaaogjhaokaggaaGreatDoorQuoA
import Derived.Test.YtaaogjhaokaggaaGreatDoorInjC
import Derived.Test.YtaaogjhaokaggaaGreatDoorTxtR
namespace Go.Proofs.YtaaogjhaokaggaaGreatDoor
open Go.RowKit

theorem expD_len (x : Nat) : (expD x).length ≤ 3 := by
  unfold expD
  repeat' split
  all_goals simp
theorem gText_len (neg : Bool) (ds : List UInt8) (dp : Int) (h : ds.length ≤ 20) : (gText neg ds dp).length ≤ 100 := by
  unfold gText
  split
  · unfold eText
    have := expD_len (if ds = [] then 0 else (dp - 1).natAbs)
    simp only [List.length_append]
    have h1 : (if neg = true then [(45 : UInt8)] else []).length ≤ 1 := by split <;> simp
    have h2 : (if 2 ≤ ds.length then (46 : UInt8) :: ds.drop 1 else []).length ≤ 21 := by split <;> simp <;> omega
    have h3 : (if ds = [] ∨ 1 ≤ dp then [(43 : UInt8)] else [45]).length ≤ 1 := by split <;> simp
    simp only [List.length_cons, List.length_nil] at *
    omega
  · unfold fText
    simp only [List.length_append]
    have h1 : (if neg = true then [(45 : UInt8)] else []).length ≤ 1 := by split <;> simp
    have h2 : (if 0 < dp then ds.take dp.toNat ++ List.replicate (dp.toNat - ds.length) (48 : UInt8) else [48]).length ≤ 30 := by split <;> simp <;> omega
    have h3 : (if dp < ds.length then [(46 : UInt8)] ++ List.replicate (-dp).toNat 48 ++ ds.drop dp.toNat else []).length ≤ 30 := by split <;> simp <;> omega
    omega
/-- A number of a block, as a word without its sign. -/
def nOf (j mm : Nat) : Nat := if j ≤ 52 then mm else (2 + (j - 53) / 2) * 4503599627370496 + (mm - 4503599627370496)
theorem blk_of (E M : Nat) (hE0 : 1 ≤ E) (hE1 : E ≤ 2046) (hM : M < 4503599627370496) : ∃ j mm, Inj.In j mm ∧ mm = M + 4503599627370496 ∧ (Inj.blk j).z = 11 ∧ eOf j = (E : Int) - 1086 ∧ nOf j mm = E * 4503599627370496 + M := by
  by_cases h1 : E = 1
  · subst h1
    have hB := Inj.blk_lo (show 52 ≤ 52 by omega)
    refine ⟨52, M + 4503599627370496, ⟨by omega, ?_, ?_⟩, rfl, ?_, rfl, ?_⟩
    · rw [hB]; show 4503599627370496 ≤ _; omega
    · rw [hB]; show _ ≤ 9007199254740991; omega
    · rw [hB]
    · show M + 4503599627370496 = _; omega
  · by_cases h2 : M = 0
    · subst h2
      have hj : ¬ (53 + 2 * (E - 2)) ≤ 52 := by omega
      have hB := Inj.blk_sk hj (by omega)
      refine ⟨53 + 2 * (E - 2), 4503599627370496, ⟨by omega, ?_, ?_⟩, by omega, ?_, ?_, ?_⟩
      · rw [hB]; exact Nat.le_refl _
      · rw [hB]; exact Nat.le_refl _
      · rw [hB]
      · unfold eOf; rw [if_neg hj]; omega
      · unfold nOf; rw [if_neg hj]; omega
    · have hj : ¬ (54 + 2 * (E - 2)) ≤ 52 := by omega
      have hB := Inj.blk_no hj (by omega)
      refine ⟨54 + 2 * (E - 2), M + 4503599627370496, ⟨by omega, ?_, ?_⟩, rfl, ?_, ?_, ?_⟩
      · rw [hB]; show 4503599627370497 ≤ _; omega
      · rw [hB]; show _ ≤ 9007199254740991; omega
      · rw [hB]
      · unfold eOf; rw [if_neg hj]; omega
      · unfold nOf; rw [if_neg hj]; omega
/-- The text of a number, told exactly. -/
def FText (n : Nat) (r : List UInt8) : Prop :=
  (n % 9223372036854775808 = 0 ∧ r = gText ((n : Int) / 9223372036854775808 != 0) [] 0) ∨
  ∃ (d : Nat) (p : Int) (j mm : Nat), Inj.In j mm ∧ nOf j mm = n % 9223372036854775808 ∧ d ≠ 0 ∧ d < 18446744073709551616 ∧ -400 ≤ p ∧ p ≤ 500 ∧ d * 10 ^ (400 + p).toNat = Inj.vl p10 j mm ∧ r = gText ((n : Int) / 9223372036854775808 != 0) (dig d) ((nD d : Int) + p)
theorem d_ne {d : Nat} {p : Int} {j mm : Nat} (hI : Inj.In j mm) (h : d * 10 ^ (400 + p).toNat = Inj.vl p10 j mm) : d ≠ 0 := by
  rintro rfl
  have := vlP_pos hI
  omega
theorem ftoa_ex (n : Nat) (hn : n < 18446744073709551616) (hf : fin64 n = true) : ∃ r : List UInt8, r.length ≤ 100 ∧ FText n r ∧ ∀ (B : Nat) (ea : Addr) (buf : Value) (l : List UInt8) (w : World), Gv B ea w → Own w 5 buf l → l.length ≤ 900000000 →
    Calls Tryz.prog 112 #[buf, .float .f64 n, .int .u8 103, .int .i64 (-1)] w (App w buf (l ++ r)) := by
  rw [fin64_iff] at hf
  by_cases h0 : n % 9223372036854775808 = 0
  · exact ⟨fText ((n : Int) / 9223372036854775808 != 0) [] 0, by cases ((n : Int) / 9223372036854775808 != 0) <;> decide, .inl ⟨h0, rfl⟩, fun B ea buf l w _ hO hl => ftoa_zero _ n hn h0 rfl buf l w hO hl⟩
  · have hE := fE n hn
    have hM := fM n hn
    by_cases hE0 : n / 4503599627370496 % 2048 = 0
    · rw [hE0] at hE
      obtain ⟨k, hk⟩ : ∃ k, k = Nat.log2 (n % 4503599627370496) := ⟨_, rfl⟩
      have hM0 : n % 4503599627370496 ≠ 0 := by omega
      have hk0 : 2 ^ k ≤ n % 4503599627370496 := by rw [hk]; exact Nat.log2_self_le hM0
      have hk1 : n % 4503599627370496 < 2 ^ (k + 1) := by rw [hk]; exact Nat.lt_log2_self
      have hk52 : k < 52 := by
        apply Nat.lt_of_not_le
        intro h
        have : 2 ^ 52 ≤ 2 ^ k := Nat.pow_le_pow_right (by decide) h
        omega
      have hL := bitLen_of _ k hk0 hk1 (by omega)
      obtain ⟨M, hMd⟩ : ∃ M, M = n % 4503599627370496 := ⟨_, rfl⟩
      rw [← hMd] at hL hM hM0 hk0 hk1
      have hp : 2 ^ k * 2 ^ (63 - k) = 9223372036854775808 := by rw [← Nat.pow_add, show k + (63 - k) = 63 by omega]
      have hp2 : 2 ^ (k + 1) * 2 ^ (63 - k) = 18446744073709551616 := by rw [← Nat.pow_add, show k + 1 + (63 - k) = 64 by omega]
      have hpos : 0 < 2 ^ (63 - k) := Nat.two_pow_pos _
      have hm0 : 9223372036854775808 ≤ M * 2 ^ (63 - k) := by rw [← hp]; exact Nat.mul_le_mul_right _ hk0
      have hm1 : M * 2 ^ (63 - k) < 18446744073709551616 := by rw [← hp2]; exact Nat.mul_lt_mul_of_pos_right hk1 hpos
      obtain ⟨d, p, ⟨hd0, hd1, hp0, hp1⟩, hv, hsh⟩ := short_ex (M * 2 ^ (63 - k)) hm0 hm1 (-1074 - ((63 - k : Nat) : Int)) (by omega) (by omega)
      obtain ⟨d, rfl⟩ := Int.eq_ofNat_of_zero_le hd0
      have hB := Inj.blk_lo (show k ≤ 52 by omega)
      have hI : Inj.In k M := ⟨by omega, by rw [hB]; exact hk0, by rw [hB]; show M ≤ 2 ^ (k + 1) - 1; omega⟩
      have hvl := hv k M hI (okP k hI.1) (by rw [hB]) (by unfold eOf; rw [if_pos (by omega)]; omega)
      have hvl' : d * 10 ^ (400 + p).toNat = Inj.vl p10 k M := hvl
      refine ⟨_, gText_len _ _ _ (Nat.le_trans (dig_length_le d) (nD_le d (by omega))), .inr ⟨d, p, k, M, hI, by unfold nOf; rw [if_pos (by omega)]; omega, d_ne hI hvl', by omega, hp0, hp1, hvl', rfl⟩, fun B ea buf l w hG hO hl => ftoa_sub _ n M (63 - k) d p (by omega) (by omega) (by omega) (by omega) (by rw [hL]; omega) hm1 (by omega) (by omega) hp1 rfl (by rw [hE]; rfl) hM hn (B := B) (ea := ea) (fun w hG => ?_) buf l w hG hO hl⟩
      have := hsh B ea w hG
      rw [show IntKind.u64.wrap ((M : Int) * 2 ^ (63 - k)) = ((M * 2 ^ (63 - k) : Nat) : Int) by
        have e : ((M : Int) * 2 ^ (63 - k)) = ((M * 2 ^ (63 - k) : Nat) : Int) := by push_cast; rfl
        rw [e, IntKind.wrap_u64]; omega]
      exact this
    · obtain ⟨E, hEd⟩ : ∃ E, E = n / 4503599627370496 % 2048 := ⟨_, rfl⟩
      obtain ⟨M, hMd⟩ : ∃ M, M = n % 4503599627370496 := ⟨_, rfl⟩
      rw [← hEd] at hE
      rw [← hMd] at hM
      obtain ⟨j, mm, hI, hmm, hz, he, hnf⟩ := blk_of E M (by omega) (by omega) (by omega)
      obtain ⟨d, p, ⟨hd0, hd1, hp0, hp1⟩, hv, hsh⟩ := short_ex ((M + 4503599627370496) * 2048) (by omega) (by omega) ((E : Int) - 1086) (by omega) (by omega)
      obtain ⟨d, rfl⟩ := Int.eq_ofNat_of_zero_le hd0
      have hvl := hv j mm hI (okP j hI.1) (by rw [hz, hmm]) he.symm
      have hvl' : d * 10 ^ (400 + p).toNat = Inj.vl p10 j mm := hvl
      refine ⟨_, gText_len _ _ _ (Nat.le_trans (dig_length_le d) (nD_le d (by omega))), .inr ⟨d, p, j, mm, hI, by rw [hnf]; omega, d_ne hI hvl', by omega, hp0, hp1, hvl', rfl⟩, fun B ea buf l w hG hO hl => ftoa_norm _ n E M (M + 4503599627370496) d p (by omega) (by omega) (by omega) (by omega) (by omega) (by omega) hp1 rfl hE hM (fOr M (by omega)) hn (B := B) (ea := ea) (fun w hG => ?_) buf l w hG hO hl⟩
      have := hsh B ea w hG
      rw [show ((M + 4503599627370496 : Nat) : Int) * 2048 = (((M + 4503599627370496) * 2048 : Nat) : Int) by omega]
      exact this

/-- What is written of a number. -/
noncomputable def fTx (n : Nat) : List UInt8 := if h : n < 18446744073709551616 ∧ fin64 n = true then Classical.choose (ftoa_ex n h.1 h.2) else []
def finOk (n : Nat) : Prop := n < 18446744073709551616 ∧ fin64 n = true
theorem ftoa_any (n : Nat) (h : finOk n) : ∀ (B : Nat) (ea : Addr) (buf : Value) (l : List UInt8) (w : World), Gv B ea w → Own w 5 buf l → l.length ≤ 900000000 →
    Calls Tryz.prog 112 #[buf, .float .f64 n, .int .u8 103, .int .i64 (-1)] w (App w buf (l ++ fTx n)) := by
  have e : fTx n = Classical.choose (ftoa_ex n h.1 h.2) := dif_pos h
  rw [e]
  exact (Classical.choose_spec (ftoa_ex n h.1 h.2)).2.2
theorem fTx_text (n : Nat) (h : finOk n) : FText n (fTx n) := by
  have e : fTx n = Classical.choose (ftoa_ex n h.1 h.2) := dif_pos h
  rw [e]
  exact (Classical.choose_spec (ftoa_ex n h.1 h.2)).2.1

theorem fTx_len (n : Nat) : (fTx n).length ≤ 100 := by
  unfold fTx
  split
  · next h => exact (Classical.choose_spec (ftoa_ex n h.1 h.2)).1
  · simp
set_option maxRecDepth 100000 in
theorem appendFloat_105 (n : Nat) (h : finOk n) (B : Nat) (ea : Addr) (buf : Value) (l : List UInt8) (w : World) (hG : Gv B ea w) (hO : Own w 5 buf l) (hl : l.length ≤ 900000000) :
    Calls Tryz.prog 105 #[buf, .float .f64 n, .int .u8 103, .int .i64 (-1), .int .i64 64] w (App w buf (l ++ fTx n)) := by
  have H := Lib.hid (ftoa_any n h B ea buf l w hG hO hl)
  clear hO hG h
  go_enter Tryz.func105, Tryz.ntmps105
  go_wp2_with (go_at_call 112; refine H.out.mono ?_; rintro e w1 ⟨v1, rfl, ho1, hs1⟩; have HO1 := Lib.hid ho1; have HS1 := Lib.hid hs1; clear ho1 hs1)
  go_ret
  exact ⟨v1, rfl, HO1.out, HS1.out⟩
set_option maxRecDepth 100000 in
theorem floatSaid : FloatSaid fTx finOk := by
  intro B ea n buf l w hf hG hO hl _
  have H := Lib.hid (appendFloat_105 n hf B ea buf l w hG hO hl)
  clear hO hG hf
  go_enter Tryz.func66, Tryz.ntmps66
  go_wp2_with (go_at_call 105; refine H.out.mono ?_; rintro e w1 ⟨v1, rfl, ho1, hs1⟩; have HO1 := Lib.hid ho1; have HS1 := Lib.hid hs1; clear ho1 hs1)
  go_ret
  exact ⟨v1, rfl, HO1.out, HS1.out⟩
end Go.Proofs.YtaaogjhaokaggaaGreatDoor
namespace Go.Proofs.YtaaogjhaokaggaaGreatDoor
open Go.RowKit Go.Sort

set_option maxRecDepth 100000 in
theorem formatUint_74 (u : Nat) (hu64 : u < 18446744073709551616) {B : Nat} {ea : Addr} (w : World) (hG : Gv B ea w) :
    Calls Tryz.prog 74 #[.int .u64 u, .int .i64 10] w fun e w' => e = .returned (.string ⟨(Lib.decDigits u).toArray⟩) ∧ Fr [] w w' := by
  by_cases hu : u < 100
  · have hi : (u : Int) < 100 := by omega
    clear hG
    go_enter Tryz.func74, Tryz.ntmps74
    go_wp2_with (go_at_call 95; refine (Tryz.internal_strconv_small u hu _).mono ?_; rintro e w' ⟨rfl, rfl⟩)
    go_ret
    exact ⟨rfl, Fr.refl _ _⟩
  · have hu1 : 1 ≤ u := by omega
    have htab := hG.pow
    have HT := Lib.hid htab
    have hnd20 : Lib.nDigits u ≤ 20 := Lib.nDigits_le20 u hu64
    have hal : Tryz.prog.arrayLen 132 = 24 := by simp [Program.arrayLen, Tryz.underlying132]
    have hsl1 : ∀ W, (Instr.sliceAt 132 (.pointer (some ⟨w.heap.size, 0, none⟩)) none (some (.int .i64 (Lib.nDigits u : Int))) none).run Tryz.prog W = .ok (.slice (some ⟨w.heap.size, 0, none⟩) (Lib.nDigits u) 24) W := fun W => by
      rw [run_sliceAt_array_h W 132 ⟨w.heap.size, 0, none⟩ (by simp [Program.arrayLen, Program.elem, Tryz.underlying132]) .i64 (Lib.nDigits u : Int) (by omega) (by rw [hal]; omega)]
      go_simp
    have hH0 := Lib.holds_zero0 w 132 (Lib.nDigits u) (by omega)
    have hfmt := Tryz.internal_strconv_formatBase10 w.heap.size 0 24 u (Array.replicate (Lib.nDigits u) 0) (w.alloc (.cells Lib.zeros24 132)) hH0 (by rw [Array.size_replicate]; exact Lib.lt_pow_nDigits u) hu64 (by rw [Array.size_replicate]; omega)
    rw [Array.size_replicate] at hfmt
    have HH0 := Lib.hid hH0
    have iu : (100 : Int) ≤ (u : Int) := by omega
    clear hH0 hal hG htab
    go_enter Tryz.func74, Tryz.ntmps74
    go_wp2_with (first
      | (go_at_call 96; refine (Tryz.internal_strconv_numDigits u hu1 hu64 _ (Lib.tabIs_alloc HT.out _)).mono ?_; rintro e w' ⟨rfl, rfl⟩))
    go_at_call 97
    refine hfmt.mono ?_
    rintro e w' ⟨rfl, k, v', dk, rfl, hF⟩
    have hcv : (convert 66 9 (.slice (some ⟨w.heap.size, 0, none⟩) (Lib.nDigits u) 24)).run Tryz.prog ((putRow (fun (b : UInt8) => Value.int .u8 (b.toNat : Int)) (w.alloc (.cells Lib.zeros24 132)) w.heap.size 0 dk).drewN k) = .ok (.string ⟨(Lib.decDigits u).toArray⟩) ((putRow (fun (b : UInt8) => Value.int .u8 (b.toNat : Int)) (w.alloc (.cells Lib.zeros24 132)) w.heap.size 0 dk).drewN k) := by
      have h := run_convert_bytes_back (P := Tryz.prog) ((putRow (fun (b : UInt8) => Value.int .u8 (b.toNat : Int)) (w.alloc (.cells Lib.zeros24 132)) w.heap.size 0 dk).drewN k) 66 9 5 ⟨w.heap.size, 0, none⟩ 24 (Lib.decDigits u) u66 Tryz.underlying5 u9 (fun j hj => by
        rw [Lib.row_is_numeral hF j hj, Lib.add_plain, World.cell?_drewN]
        exact cell?_putRow (fun (b : UInt8) => Value.int .u8 (b.toNat : Int)) _ w.heap.size 0 _ dk HH0.out (by rw [hF.size, Array.size_replicate]) j (by rw [hF.size]; rw [Lib.decDigits_length] at hj; exact hj))
      rw [Lib.decDigits_length] at h
      exact h
    have hfr : Fr [] w ((putRow (fun (b : UInt8) => Value.int .u8 (b.toNat : Int)) (w.alloc (.cells Lib.zeros24 132)) w.heap.size 0 dk).drewN k) :=
      ((Fr.refl [] w).alloc (.cells Lib.zeros24 132)).step (fr_putRow (w.alloc (.cells Lib.zeros24 132)) w.heap.size dk k) (fun t ht => .inr (by simp at ht; subst ht; exact Nat.le_refl _))
    have HFR := Lib.hid hfr; clear hfr
    go_wp2
    go_ret
    exact ⟨rfl, HFR.out⟩
set_option maxRecDepth 100000 in
theorem formatUint_any (u : Nat) (hu64 : u < 18446744073709551616) {B : Nat} {ea : Addr} (w : World) (hG : Gv B ea w) :
    Calls Tryz.prog 39 #[.int .u64 u, .int .i64 10] w fun e w' => e = .returned (.string ⟨(Lib.decDigits u).toArray⟩) ∧ Fr [] w w' := by
  have H := Lib.hid (formatUint_74 u hu64 w hG)
  clear hG
  go_enter Tryz.func39, Tryz.ntmps39
  go_wp2_with (go_at_call 74; refine H.out.mono ?_; rintro e w1 ⟨rfl, hf⟩)
  go_ret
  exact ⟨rfl, hf⟩
set_option maxRecDepth 100000 in
theorem formatFloat_75 (n : Nat) (hn : finOk n) {B : Nat} {ea : Addr} (w : World) (hG : Gv B ea w) :
    Calls Tryz.prog 75 #[.float .f64 n, .int .u8 103, .int .i64 (-1), .int .i64 64] w fun e w' => e = .returned (.string ⟨(fTx n).toArray⟩) ∧ Fr [] w w' := by
  have H := Lib.hid (ftoa_any n hn B ea)
  have HG := Lib.hid hG; clear hG hn
  have hmax : max (3 : Int) 24 = 24 := by decide
  go_enter Tryz.func75, Tryz.ntmps75
  go_wp2_with (first
    | (at_make; refine wpMake _ rfl (.const (.int .i64 0)) (.tmp 25) rfl _ _ 0 24 rfl rfl rfl rfl (by decide) (by decide) ?_; intro w1 hr1 hf1; have HF1 := Lib.hid hf1; have HO1 : Hid (Own w1 5 (.slice (some ⟨w.heap.size, 0, none⟩) 0 24) []) := Lib.hid (.inr ⟨_, _, rfl, _, _, hr1, fun j _ h => by simp at h, by rw [zbytes_size]; exact Nat.le_refl _, by simp, by decide, by simp [bvs]⟩); clear hr1 hf1)
    | (go_at_call 112; refine (H.out _ [] _ (HG.out.fr HF1.out (fun _ h => by cases h)) HO1.out (by simp)).mono ?_; rintro e w2 ⟨v2, rfl, ho2, hs2⟩; have HO2 := Lib.hid ho2; have hcv := conv_own ho2; have HS2 := Lib.hid hs2; clear ho2 hs2))
  go_ret
  exact ⟨by simp, HF1.out.step HS2.out.1 (fun t ht => .inr (by simp [Value.ownBlock] at ht; omega))⟩
set_option maxRecDepth 100000 in
theorem formatFloat_any (n : Nat) (hn : finOk n) {B : Nat} {ea : Addr} (w : World) (hG : Gv B ea w) :
    Calls Tryz.prog 40 #[.float .f64 n, .int .u8 103, .int .i64 (-1), .int .i64 64] w fun e w' => e = .returned (.string ⟨(fTx n).toArray⟩) ∧ Fr [] w w' := by
  have H := Lib.hid (formatFloat_75 n hn w hG)
  clear hG hn
  go_enter Tryz.func40, Tryz.ntmps40
  go_wp2_with (go_at_call 75; refine H.out.mono ?_; rintro e w1 ⟨rfl, hf⟩)
  go_ret
  exact ⟨rfl, hf⟩
end Go.Proofs.YtaaogjhaokaggaaGreatDoor
