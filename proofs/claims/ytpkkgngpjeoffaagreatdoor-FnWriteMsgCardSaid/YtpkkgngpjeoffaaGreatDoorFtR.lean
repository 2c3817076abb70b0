/- PROVED HERE: internal/strconv.ftoa64 with the format 'f' and the shortest digits: some text, the same in every world. CONDITIONS: those ahead of each theorem. -/
import Derived.Test.YtpkkgngpjeoffaaGreatDoorFrA
import Derived.Test.YtpkkgngpjeoffaaGreatDoorFrB
import Derived.Test.YtpkkgngpjeoffaaGreatDoorFlY
import Derived.Sort.AtCall
namespace Go.Proofs.YtpkkgngpjeoffaaGreatDoor
open Go.RowKit

theorem fmtF_any (neg : Bool) (buf : Value) (l : List UInt8) (w : World) (g : Nat) (ds : List UInt8) (dp PP : Int) (hP : PP = max ((ds.length : Int) - dp) 0) (hn : ds.length ≤ 32) (hd0 : -1000 ≤ dp) (hd1 : dp ≤ 1000) (hO : Own w 5 buf l) (hl : l.length ≤ 900000000) (hD : Dg w g ds) (hg : buf.ownBlock ≠ some g) :
    Calls Tryz.prog 127 #[buf, .bool neg, .slice (some ⟨g, 0, none⟩) 32 32, .int .i64 dp, .int .i64 ds.length, .int .i64 PP, .int .u8 102, .bool true] w (App w buf (l ++ fText neg ds dp)) := by
  by_cases h0 : 0 < dp
  · obtain ⟨D, rfl⟩ := Int.eq_ofNat_of_zero_le (show 0 ≤ dp by omega)
    by_cases h1 : ds.length ≤ D
    · obtain rfl : PP = 0 := by omega
      cases neg
      · exact ff_f1 buf l w g ds _ D rfl h1 hn (by omega) (by omega) hO hl hD hg
      · exact ff_t1 buf l w g ds _ D rfl h1 hn (by omega) (by omega) hO hl hD hg
    · obtain ⟨q, hq⟩ : ∃ q, ds.length = D + q := ⟨ds.length - D, by omega⟩
      obtain rfl : PP = (q : Int) := by omega
      cases neg
      · exact ff_f2 buf l w g ds _ D q rfl hq (by omega) (by omega) (by omega) hn hO hl hD hg
      · exact ff_t2 buf l w g ds _ D q rfl hq (by omega) (by omega) (by omega) hn hO hl hD hg
  · obtain ⟨Z, hZ⟩ : ∃ Z : Nat, dp = -(Z : Int) := ⟨(-dp).toNat, by omega⟩
    by_cases h1 : 1 ≤ ds.length + Z
    · obtain rfl : PP = ((ds.length + Z : Nat) : Int) := by omega
      cases neg
      · exact ff_f3 buf l w g ds _ Z _ dp rfl hZ rfl h1 (by omega) hn hO hl hD hg
      · exact ff_t3 buf l w g ds _ Z _ dp rfl hZ rfl h1 (by omega) hn hO hl hD hg
    · have : ds = [] := List.eq_nil_of_length_eq_zero (by omega)
      subst this
      have : dp = 0 := by simp at h1; omega
      subst this
      obtain rfl : PP = 0 := by simp at hP; exact hP
      cases neg
      · exact ff_fb buf l w g hO hl
      · exact ff_tb buf l w g hO hl
theorem fmt0_any (neg : Bool) (buf : Value) (l : List UInt8) (w : World) (hO : Own w 5 buf l) (hl : l.length ≤ 900000000) :
    Calls Tryz.prog 127 #[buf, .bool neg, .slice none 0 0, .int .i64 0, .int .i64 0, .int .i64 (-1), .int .u8 102, .bool true] w (App w buf (l ++ fText neg [] 0)) := by
  cases neg
  · exact ff_f0 buf l w hO hl
  · exact ff_t0 buf l w hO hl
end Go.Proofs.YtpkkgngpjeoffaaGreatDoor
namespace Go.Proofs.YtpkkgngpjeoffaaGreatDoor
open Go.RowKit

theorem run_bits124 (w : World) (n : Nat) : (callFunc 124 #[.float .f64 n]).run Tryz.prog w = .ok (.value (.int .u64 n)) w := by
  rw [run_callFunc_extern Tryz.func124 (by kernel_rfl) (by kernel_rfl) (by kernel_rfl) (e := Extern.MathFloatBits.float64bits) (by kernel_rfl)]
  rfl

theorem fE (n : Nat) (hn : n < 18446744073709551616) : bits .and .i64 ((n : Int) / 4503599627370496) 2047 = ((n / 4503599627370496 % 2048 : Nat) : Int) := by
  have h := bits_mask .i64 63 (by decide) (fun n a b => by rw [IntKind.wrap_i64]; omega) 11 (by decide) ((n : Int) / 4503599627370496) (by omega) (by omega)
  rw [show (2047 : Int) = 2 ^ 11 - 1 by decide, h]
  omega
theorem fM (n : Nat) (hn : n < 18446744073709551616) : bits .and .u64 (n : Int) 4503599627370495 = ((n % 4503599627370496 : Nat) : Int) := by
  have h := bits_mask .u64 64 (by decide) (fun n a b => by rw [IntKind.wrap_u64]; omega) 52 (by decide) (n : Int) (by omega) (by omega)
  rw [show (4503599627370495 : Int) = 2 ^ 52 - 1 by decide, h]
  omega
theorem fOr (M : Nat) (hM : M < 4503599627370496) : bits .or .u64 (M : Int) 4503599627370496 = ((M + 4503599627370496 : Nat) : Int) := by
  have h := (bits_nat .u64 64 (by decide) (fun n a b => by rw [IntKind.wrap_u64]; omega) M 4503599627370496 (by omega) (by decide)).2
  have e : M ||| 4503599627370496 = M + 4503599627370496 := by
    have := Nat.two_pow_add_eq_or_of_lt (i := 52) (b := M) hM 1
    rw [Nat.or_comm, Nat.add_comm]
    simpa using this.symm
  rw [e] at h
  exact h

set_option maxRecDepth 100000 in
set_option maxHeartbeats 2000000 in
theorem ftoa_zero (neg : Bool) (n : Nat) (hn : n < 18446744073709551616) (h0 : n % 9223372036854775808 = 0) (hs : neg = ((n : Int) / 9223372036854775808 != 0)) (buf : Value) (l : List UInt8) (w : World) (hO : Own w 5 buf l) (hl : l.length ≤ 900000000) :
    Calls Tryz.prog 113 #[buf, .float .f64 n, .int .u8 102, .int .i64 (-1)] w (App w buf (l ++ fText neg [] 0)) := by
  have hb := fun w => run_bits124 w n
  have hE : bits .and .i64 ((n : Int) / 4503599627370496) 2047 = 0 := by
    rw [fE n hn, show n / 4503599627370496 % 2048 = 0 by omega]; rfl
  have hM : bits .and .u64 (n : Int) 4503599627370495 = 0 := by
    rw [fM n hn, show n % 4503599627370496 = 0 by omega]; rfl
  have HF := Lib.hid (fun w hO => fmt0_any neg buf l w hO hl)
  have HO := Lib.hid hO; clear hO
  have hs2 : ((n : Int) / 9223372036854775808 != 0) = neg := hs.symm
  clear hs h0
  go_enter Tryz.func113, Tryz.ntmps113
  go_wp2_with fail
  go_quiet (fail)
  go_wp2_with (go_at_call 127; refine (HF.out _ (HO.out.fr ((Fr.refl [] _).drewN nq) (fun _ _ => List.not_mem_nil))).mono ?_; rintro e w2 ⟨v2, rfl, ho2, hs2⟩; have HO2 := Lib.hid ho2; have HS2 := Lib.hid hs2; clear ho2 hs2)

  go_ret
  exact App.pre ((Fr.refl _ _).drewN nq) ⟨v2, rfl, HO2.out, HS2.out⟩
end Go.Proofs.YtpkkgngpjeoffaaGreatDoor
namespace Go.Proofs.YtpkkgngpjeoffaaGreatDoor
open Go.RowKit

def Z32 : Array Value := #[.int .u8 0, .int .u8 0, .int .u8 0, .int .u8 0, .int .u8 0, .int .u8 0, .int .u8 0, .int .u8 0, .int .u8 0, .int .u8 0, .int .u8 0, .int .u8 0, .int .u8 0, .int .u8 0, .int .u8 0, .int .u8 0, .int .u8 0, .int .u8 0, .int .u8 0, .int .u8 0, .int .u8 0, .int .u8 0, .int .u8 0, .int .u8 0, .int .u8 0, .int .u8 0, .int .u8 0, .int .u8 0, .int .u8 0, .int .u8 0, .int .u8 0, .int .u8 0]
theorem Z32_at : ∀ j, j < 32 → Z32[j]? = some (.int .u8 0) := by
  intro j hj
  have e : Z32 = Array.replicate 32 (.int .u8 0) := rfl
  rw [e]
  simp [hj]
theorem setD (d : Nat) (hd : d < 18446744073709551616) (p : Int) (hp0 : -500 ≤ p) (hp1 : p ≤ 500) (g : Nat) (w : World) (hg : w.heap[g]? = some (.cells Z32 258 (0, 0))) :
    Calls Tryz.prog 130 #[.slice (some ⟨g, 0, none⟩) 32 32, .int .u64 d, .int .i64 p, .int .i64 (nD d)] w fun e w' => e = .returned (.tuple #[.int .i64 ((nD d : Int) + p), .int .i64 (dig d).length]) ∧ Dg w' g (dig d) ∧ Fr [g] w w' :=
  setDigits_any d hd p hp0 hp1 g w Z32 258 hg rfl Z32_at
theorem bitLen_of (x k : Nat) (h0 : 2 ^ k ≤ x) (h1 : x < 2 ^ (k + 1)) (h2 : x < 2 ^ 64) : Lib.bitLen x = k + 1 := by
  rw [Lib.bitLen_shift k x h0 h2]
  have : x / 2 ^ k = 1 := by
    apply Nat.div_eq_of_lt_le
    · omega
    · rw [Nat.pow_succ] at h1; omega
  rw [this]
  rfl
set_option maxRecDepth 100000 in
set_option maxHeartbeats 2000000 in
theorem ftoa_norm (neg : Bool) (n E M M2 : Nat) (d : Nat) (p : Int) (hE0 : 1 ≤ E) (hE1 : E ≤ 2046) (hM2 : M2 < 9007199254740992) (hM3 : 4503599627370496 ≤ M2) (hd : d < 18446744073709551616) (hp0 : -500 ≤ p) (hp1 : p ≤ 500)
    (hs : ((n : Int) / 9223372036854775808 != 0) = neg) (hE : bits .and .i64 ((n : Int) / 4503599627370496) 2047 = (E : Int)) (hM : bits .and .u64 (n : Int) 4503599627370495 = (M : Int)) (hMM : bits .or .u64 (M : Int) 4503599627370496 = (M2 : Int))
    (hn : n < 18446744073709551616) {B : Nat} {ea : Addr} (hsh : ∀ (w : World), Gp B ea w → Calls Tryz.prog 136 #[.int .u64 ((M2 : Int) * 2048), .int .i64 ((E : Int) - 1086)] w fun ε w' => ε = .returned (.tuple #[.int .u64 d, .int .i64 p]) ∧ Fr [] w w')
    (buf : Value) (l : List UInt8) (w : World) (hG : Gp B ea w) (hO : Own w 5 buf l) (hl : l.length ≤ 900000000) :
    Calls Tryz.prog 113 #[buf, .float .f64 n, .int .u8 102, .int .i64 (-1)] w (App w buf (l ++ fText neg (dig d) ((nD d : Int) + p))) := by
  have hb := fun w => run_bits124 w n
  have HO := Lib.hid hO; clear hO
  have HS := Lib.hid hsh; clear hsh
  have HG := Lib.hid hG; clear hG
  have hbl : ∀ w, Calls Tryz.prog 128 #[.int .u64 (M2 : Int)] w fun e w' => e = .returned (.int .i64 53) ∧ w' = w := by
    intro w
    have := Tryz.bits_Len64 (M2 : Int) w (by omega) (by omega)
    rw [show ((M2 : Int)).toNat = M2 from rfl, bitLen_of M2 52 hM3 (by omega) (by omega)] at this
    exact this
  have HBL := Lib.hid hbl; clear hbl
  have hE00 : ((E : Int) == 0) = false := by rw [beq_eq_false_iff_ne]; omega
  have hE07 : ((E : Int) == 2047) = false := by rw [beq_eq_false_iff_ne]; omega
  have hM00 : ((M2 : Int) == 0) = false := by rw [beq_eq_false_iff_ne]; omega
  obtain ⟨X, hX⟩ : ∃ X : Int, X = (E : Int) + -1023 := ⟨_, rfl⟩
  have hX2 : X - 11 - 52 = (E : Int) - 1086 := by omega
  have hX3 : (E : Int) + -1023 = X := hX.symm
  have HX := Lib.hid hX; clear hX
  have b3 : -1022 ≤ X := by omega
  have b4 : X ≤ 1023 := by omega
  have b1 : (1 : Int) ≤ (E : Int) := by omega
  have b2 : (E : Int) ≤ 2046 := by omega
  go_enter Tryz.func113, Tryz.ntmps113
  go_wp2_with fail
  go_quiet (fail)
  go_wp2_with (first
    | (go_at_call 128; refine (HBL.out _).mono ?_; rintro e w1 ⟨rfl, rfl⟩)
    | (go_at_call 136; refine (HS.out _ (HG.out.fr (((Fr.refl [] _).drewN nq).alloc _) (fun _ h => by cases h))).mono ?_; rintro ε w3 ⟨rfl, hf3⟩; have HF3 := Lib.hid ((((Fr.refl [] w).drewN nq).alloc _).trans hf3); have HR3 := Lib.hid (hf3.blk (heap_alloc_new (w.drewN nq) _) List.not_mem_nil); clear hf3))
  have hND : ∀ w, Gp B ea w → Calls Tryz.prog 116 #[.int .u64 d] w fun e w' => e = .returned (.int .i64 (nD d)) ∧ w' = w := fun w hG => numDigits_any d hd w hG
  have HND := Lib.hid hND; clear hND
  have HG3 := Lib.hid (HG.out.fr HF3.out (fun _ h => by cases h))
  have HSET := Lib.hid (fun (w : World) g hg => setD d hd p hp0 hp1 g w hg)
  have hdb : (dig d).length ≤ 20 := Nat.le_trans (dig_length_le d) (nD_le d hd)
  have hnb := nD_le d hd
  have HDB := Lib.hid hdb; clear hdb
  have HR3' : Hid (w3.heap[w.heap.size]? = some (.cells Z32 258 (0, 0))) := HR3
  clear HR3
  go_region_with (first
    | (go_at_call 116; refine (HND.out _ (HG3.out.fr (Fr.refl [] _).drew (fun _ h => by cases h))).mono ?_; rintro e w4 ⟨rfl, rfl⟩)
    | (go_at_call 130; refine (HSET.out w3.drew _ HR3'.out).mono ?_; rintro e w5 ⟨rfl, hdg, hf5⟩; have HDG := Lib.hid hdg; have HF5 := Lib.hid hf5; clear hdg hf5))
  all_goals
    have HF6 : Hid (Fr [] w w5) := Lib.hid (HF3.out.drew.step HF5.out (fun t ht => .inr (by simp at ht; subst ht; exact Nat.le_refl _)))
    have HO6 : Hid (Own w5 5 buf l) := Lib.hid (HO.out.fr HF6.out (fun _ _ => List.not_mem_nil))
    have HBN : Hid (buf.ownBlock ≠ some w.heap.size) := Lib.hid (fun h => Nat.lt_irrefl _ (HO.out.lt _ h))
    obtain ⟨PP, hPP⟩ : ∃ PP : Int, PP = max (((dig d).length : Int) - ((nD d : Int) + p)) 0 := ⟨_, rfl⟩
    have hfm := fmtF_any neg buf l w5 w.heap.size (dig d) ((nD d : Int) + p) PP hPP (by have := HDB.out; omega) (by omega) (by omega) HO6.out hl HDG.out HBN.out
    have hPP2 := hPP.symm
    have hdb3 : ((dig d).length : Int) ≤ 20 := by have := HDB.out; omega
    clear hPP
    have HFM := Lib.hid hfm; clear hfm
    go_wp2_with (go_at_call 127; refine HFM.out.mono ?_; rintro e w7 ⟨v7, rfl, ho7, hs7⟩; have HO7 := Lib.hid ho7; have HS7 := Lib.hid hs7; clear ho7 hs7)
    go_ret
    exact App.pre HF6.out ⟨v7, rfl, HO7.out, HS7.out⟩
end Go.Proofs.YtpkkgngpjeoffaaGreatDoor
namespace Go.Proofs.YtpkkgngpjeoffaaGreatDoor
open Go.RowKit

set_option maxRecDepth 100000 in
set_option maxHeartbeats 2000000 in
theorem ftoa_sub (neg : Bool) (n M S : Nat) (d : Nat) (p : Int) (hM0 : 1 ≤ M) (hM1 : M < 4503599627370496) (hS0 : 12 ≤ S) (hS1 : S ≤ 63) (hL : Lib.bitLen M = 64 - S) (hMS : M * 2 ^ S < 18446744073709551616) (hd : d < 18446744073709551616) (hp0 : -500 ≤ p) (hp1 : p ≤ 500)
    (hs : ((n : Int) / 9223372036854775808 != 0) = neg) (hE : bits .and .i64 ((n : Int) / 4503599627370496) 2047 = 0) (hM : bits .and .u64 (n : Int) 4503599627370495 = (M : Int))
    (hn : n < 18446744073709551616) {B : Nat} {ea : Addr} (hsh : ∀ (w : World), Gp B ea w → Calls Tryz.prog 136 #[.int .u64 (IntKind.u64.wrap ((M : Int) * 2 ^ S)), .int .i64 (-1074 - (S : Int))] w fun ε w' => ε = .returned (.tuple #[.int .u64 d, .int .i64 p]) ∧ Fr [] w w')
    (buf : Value) (l : List UInt8) (w : World) (hG : Gp B ea w) (hO : Own w 5 buf l) (hl : l.length ≤ 900000000) :
    Calls Tryz.prog 113 #[buf, .float .f64 n, .int .u8 102, .int .i64 (-1)] w (App w buf (l ++ fText neg (dig d) ((nD d : Int) + p))) := by
  have hb := fun w => run_bits124 w n
  have HO := Lib.hid hO; clear hO
  have HS := Lib.hid hsh; clear hsh
  have HG := Lib.hid hG; clear hG
  have hbl : ∀ w, Calls Tryz.prog 128 #[.int .u64 (M : Int)] w fun e w' => e = .returned (.int .i64 (64 - (S : Int))) ∧ w' = w := by
    intro w
    have := Tryz.bits_Len64 (M : Int) w (by omega) (by omega)
    rw [show ((M : Int)).toNat = M from rfl, hL, show (((64 - S : Nat)) : Int) = 64 - (S : Int) by omega] at this
    exact this
  have HBL := Lib.hid hbl; clear hbl
  have hM00 : ((M : Int) == 0) = false := by rw [beq_eq_false_iff_ne]; omega
  have hSS : 64 - (64 - (S : Int)) = (S : Int) := by omega
  have hX : -1022 - (S : Int) - 52 = -1074 - (S : Int) := by omega
  have HMS := Lib.hid hMS; clear hMS
  have HL := Lib.hid hL; clear hL
  go_enter Tryz.func113, Tryz.ntmps113
  go_wp2_with fail
  go_quiet (fail)
  go_wp2_with (first
    | (go_at_call 128; refine (HBL.out _).mono ?_; rintro e w1 ⟨rfl, rfl⟩)
    | (go_at_call 136; refine (HS.out _ (HG.out.fr (((Fr.refl [] _).drewN nq).alloc _) (fun _ h => by cases h))).mono ?_; rintro ε w3 ⟨rfl, hf3⟩; have HF3 := Lib.hid ((((Fr.refl [] w).drewN nq).alloc _).trans hf3); have HR3 := Lib.hid (hf3.blk (heap_alloc_new (w.drewN nq) _) List.not_mem_nil); clear hf3))
  have hND : ∀ w, Gp B ea w → Calls Tryz.prog 116 #[.int .u64 d] w fun e w' => e = .returned (.int .i64 (nD d)) ∧ w' = w := fun w hG => numDigits_any d hd w hG
  have HND := Lib.hid hND; clear hND
  have HG3 := Lib.hid (HG.out.fr HF3.out (fun _ h => by cases h))
  have HSET := Lib.hid (fun (w : World) g hg => setD d hd p hp0 hp1 g w hg)
  have hdb : (dig d).length ≤ 20 := Nat.le_trans (dig_length_le d) (nD_le d hd)
  have hnb := nD_le d hd
  have HDB := Lib.hid hdb; clear hdb
  have HR3' : Hid (w3.heap[w.heap.size]? = some (.cells Z32 258 (0, 0))) := HR3
  clear HR3
  go_region_with (first
    | (go_at_call 116; refine (HND.out _ (HG3.out.fr (Fr.refl [] _).drew (fun _ h => by cases h))).mono ?_; rintro e w4 ⟨rfl, rfl⟩)
    | (go_at_call 130; refine (HSET.out w3.drew _ HR3'.out).mono ?_; rintro e w5 ⟨rfl, hdg, hf5⟩; have HDG := Lib.hid hdg; have HF5 := Lib.hid hf5; clear hdg hf5))
  all_goals
    have HF6 : Hid (Fr [] w w5) := Lib.hid (HF3.out.drew.step HF5.out (fun t ht => .inr (by simp at ht; subst ht; exact Nat.le_refl _)))
    have HO6 : Hid (Own w5 5 buf l) := Lib.hid (HO.out.fr HF6.out (fun _ _ => List.not_mem_nil))
    have HBN : Hid (buf.ownBlock ≠ some w.heap.size) := Lib.hid (fun h => Nat.lt_irrefl _ (HO.out.lt _ h))
    obtain ⟨PP, hPP⟩ : ∃ PP : Int, PP = max (((dig d).length : Int) - ((nD d : Int) + p)) 0 := ⟨_, rfl⟩
    have hfm := fmtF_any neg buf l w5 w.heap.size (dig d) ((nD d : Int) + p) PP hPP (by have := HDB.out; omega) (by omega) (by omega) HO6.out hl HDG.out HBN.out
    have hPP2 := hPP.symm
    have hdb3 : ((dig d).length : Int) ≤ 20 := by have := HDB.out; omega
    clear hPP
    have HFM := Lib.hid hfm; clear hfm
    go_wp2_with (go_at_call 127; refine HFM.out.mono ?_; rintro e w7 ⟨v7, rfl, ho7, hs7⟩; have HO7 := Lib.hid ho7; have HS7 := Lib.hid hs7; clear ho7 hs7)
    go_ret
    exact App.pre HF6.out ⟨v7, rfl, HO7.out, HS7.out⟩
end Go.Proofs.YtpkkgngpjeoffaaGreatDoor
