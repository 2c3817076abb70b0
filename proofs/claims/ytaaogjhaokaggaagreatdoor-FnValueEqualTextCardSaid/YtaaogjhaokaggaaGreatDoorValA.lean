import Derived.Test.YtaaogjhaokaggaaGreatDoorGlN
import Derived.Test.YtaaogjhaokaggaaGreatDoorEscX
import Derived.Lib.ItoaLen
import Derived.Deep.RegionHeld3
import Derived.Deep.RegionWith
namespace Go.Proofs.YtaaogjhaokaggaaGreatDoor
open Go.RowKit

theorem kind_num (n b : Value) (k : Int) (hk : (k == 0) = false) (w : World) :
    Calls Tryz.prog 63 #[.agg #[n, b, .int .u8 k]] w fun e w' => e = .returned (.int .u8 k) ∧ Fr [] w w' := by
  have hk' : ¬ k = 0 := by simpa using hk
  go_enter Tryz.func63, Tryz.ntmps63
  go_wp2
  go_ret
  exact ⟨rfl, (Fr.refl _ _).alloc _⟩
theorem kind_str (n b : Value) (w : World) :
    Calls Tryz.prog 63 #[.agg #[n, b, .int .u8 0]] w fun e w' => e = .returned (.int .u8 1) ∧ Fr [] w w' := by
  go_enter Tryz.func63, Tryz.ntmps63
  go_wp2
  go_ret
  exact ⟨rfl, (Fr.refl _ _).alloc _⟩
theorem mustBe_any (n b : Value) (k : Int) (hk : (k == 0) = false) (w : World) :
    Calls Tryz.prog 103 #[.agg #[n, b, .int .u8 k], .int .u8 k] w fun e w' => e = .returned (.tuple #[]) ∧ Fr [] w w' := by
  go_enter Tryz.func103, Tryz.ntmps103
  go_wp2_with (go_at_call 63; refine (kind_num n b k hk _).mono ?_; rintro e w1 ⟨rfl, hf1⟩)
  go_end0
  exact ⟨rfl, ((Fr.refl _ _).alloc _).trans hf1⟩

theorem boxed {w : World} {cs : Array Value} {T : TypeId} {w1 : World} (hf : Fr [] (w.alloc (.cells cs T)) w1) (j : Nat) (v : Value) (hv : cs[j]? = some v) : w1.cell? ⟨w.heap.size, j, none⟩ = some v :=
  hf.cell (by rw [World.cell?_alloc_mark]; exact hv) (by simp)

set_option maxHeartbeats 1000000 in
theorem intV_any (n : Int) (h0 : -9223372036854775808 ≤ n) (h1 : n ≤ 9223372036854775807) (b : Value) (w : World) :
    Calls Tryz.prog 68 #[.agg #[.int .u64 (n % 18446744073709551616), b, .int .u8 2]] w fun e w' => e = .returned (.int .i64 n) ∧ Fr [] w w' := by
  obtain ⟨m, hm⟩ : ∃ m, m = n % 18446744073709551616 := ⟨_, rfl⟩
  have hw : IntKind.i64.wrap m = n := by rw [IntKind.wrap_i64]; omega
  rw [← hm]
  clear hm h0 h1
  go_enter Tryz.func68, Tryz.ntmps68
  go_wp2_with (go_at_call 103; refine (mustBe_any _ _ 2 rfl _).mono ?_; rintro e w1 ⟨rfl, hf1⟩; have c0 := boxed hf1 0 _ rfl)
  go_ret
  exact ⟨rfl, ((Fr.refl _ _).alloc _).trans hf1⟩
theorem uintV_any (n : Int) (b : Value) (w : World) :
    Calls Tryz.prog 70 #[.agg #[.int .u64 n, b, .int .u8 3]] w fun e w' => e = .returned (.int .u64 n) ∧ Fr [] w w' := by
  go_enter Tryz.func70, Tryz.ntmps70
  go_wp2_with (go_at_call 103; refine (mustBe_any _ _ 3 rfl _).mono ?_; rintro e w1 ⟨rfl, hf1⟩; have c0 := boxed hf1 0 _ rfl)
  go_ret
  exact ⟨rfl, ((Fr.refl _ _).alloc _).trans hf1⟩
theorem boolV_any (x : Bool) (b : Value) (w : World) :
    Calls Tryz.prog 71 #[.agg #[.int .u64 (if x then 1 else 0), b, .int .u8 5]] w fun e w' => e = .returned (.bool x) ∧ Fr [] w w' := by
  cases x
  · simp only [Bool.false_eq_true, if_false]
    go_enter Tryz.func71, Tryz.ntmps71
    go_wp2_with (go_at_call 103; refine (mustBe_any _ _ 5 rfl _).mono ?_; rintro e w1 ⟨rfl, hf1⟩; have c0 := boxed hf1 0 _ rfl)
    go_ret
    exact ⟨rfl, ((Fr.refl _ _).alloc _).trans hf1⟩
  · simp only [if_true]
    go_enter Tryz.func71, Tryz.ntmps71
    go_wp2_with (go_at_call 103; refine (mustBe_any _ _ 5 rfl _).mono ?_; rintro e w1 ⟨rfl, hf1⟩; have c0 := boxed hf1 0 _ rfl)
    go_ret
    exact ⟨rfl, ((Fr.refl _ _).alloc _).trans hf1⟩
theorem run_frombits (w : World) (n : Nat) : (callFunc 104 #[.int .u64 n]).run Tryz.prog w = .ok (.value (.float .f64 n)) w := by
  rw [run_callFunc_extern Tryz.func104 (by kernel_rfl) (by kernel_rfl) (by kernel_rfl) (e := Extern.MathFloatBits.float64frombits) (by kernel_rfl)]
  rfl
theorem run_bits (w : World) (n : Nat) : (callFunc 102 #[.float .f64 n]).run Tryz.prog w = .ok (.value (.int .u64 n)) w := by
  rw [run_callFunc_extern Tryz.func102 (by kernel_rfl) (by kernel_rfl) (by kernel_rfl) (e := Extern.MathFloatBits.float64bits) (by kernel_rfl)]
  rfl
theorem floatV_any (n : Nat) (b : Value) (w : World) :
    Calls Tryz.prog 65 #[.agg #[.int .u64 n, b, .int .u8 4]] w fun e w' => e = .returned (.float .f64 n) ∧ Fr [] w w' := by
  have hfb := fun w => run_frombits w n
  go_enter Tryz.func65, Tryz.ntmps65
  go_wp2_with (go_at_call 103; refine (mustBe_any _ _ 4 rfl _).mono ?_; rintro e w1 ⟨rfl, hf1⟩; have c0 := boxed hf1 0 _ rfl)
  go_ret
  exact ⟨rfl, ((Fr.refl _ _).alloc _).trans hf1⟩
/-- A field's value as data. -/
inductive Val where
  | str (s : List UInt8) | int (n : Int) | uint (n : Nat) | flt (bits : Nat) | bool (b : Bool)

/-- A value of the package that holds a datum. -/
def LV (w : World) (v : Value) : Val → Prop
  | .str s => ∃ b, v = .agg #[.int .u64 0, b, .int .u8 0] ∧ Own w 5 b s
  | .int n => v = .agg #[.int .u64 (n % 18446744073709551616), .slice none 0 0, .int .u8 2] ∧ -9223372036854775808 ≤ n ∧ n ≤ 9223372036854775807
  | .uint n => v = .agg #[.int .u64 n, .slice none 0 0, .int .u8 3] ∧ n < 18446744073709551616
  | .flt n => v = .agg #[.int .u64 n, .slice none 0 0, .int .u8 4]
  | .bool b => v = .agg #[.int .u64 (if b then 1 else 0), .slice none 0 0, .int .u8 5]

/-- The block of a value's text, if it has one. -/
def lvBlock : Value → Option Nat
  | .agg cs => (cs[1]?).bind Value.ownBlock
  | _ => none

/-- What a value is in a line (F: of floats). -/
def valText (F : Nat → List UInt8) : Val → List UInt8
  | .str s => [34] ++ esc (tOf sS) s ++ [34]
  | .int n => Lib.itoa n ++ [105]
  | .uint n => Lib.decDigits n ++ [117]
  | .flt b => F b
  | .bool b => if b then [116, 114, 117, 101] else [102, 97, 108, 115, 101]

/-- AppendFloat(dst, f, 'g', -1, 64) appends F. -/
def FloatSaid (F : Nat → List UInt8) (fin : Nat → Prop) : Prop := ∀ (B : Nat) (ea : Addr) (n : Nat) (buf : Value) (l : List UInt8) (w : World), fin n → Gv B ea w → Own w 5 buf l → l.length ≤ 900000000 → (∀ g, buf.ownBlock = some g → B ≤ g) →
  Calls Tryz.prog 66 #[buf, .float .f64 n, .int .u8 103, .int .i64 (-1), .int .i64 64] w (App w buf (l ++ F n))

set_option maxHeartbeats 1000000 in
theorem appBytes_bool (x : Bool) (buf : Value) (l : List UInt8) (w : World) (hB : Own w 5 buf l) (hl : l.length ≤ 900000000) (F : Nat → List UInt8) :
    Calls Tryz.prog 38 #[.agg #[.int .u64 (if x then 1 else 0), .slice none 0 0, .int .u8 5], buf] w (App w buf (l ++ valText F (.bool x))) := by
  have HB := Lib.hid hB; clear hB
  obtain ⟨n, hn⟩ : ∃ n : Int, n = if x then 1 else 0 := ⟨_, rfl⟩
  have hbv : ∀ w, Calls Tryz.prog 71 #[.agg #[.int .u64 n, .slice none 0 0, .int .u8 5]] w fun e w' => e = .returned (.bool x) ∧ Fr [] w w' := fun w => by rw [hn]; exact boolV_any x _ w
  rw [← hn]
  have HV := Lib.hid hbv; clear hbv hn
  cases x
  · simp only [valText, Bool.false_eq_true, if_false]
    go_enter Tryz.func38, Tryz.ntmps38
    go_wp2_with (first
      | (go_at_call 63; refine (kind_num _ _ 5 rfl _).mono ?_; rintro e w1 ⟨rfl, hf1⟩; have hfr1 := ((Fr.refl [] w).alloc _).trans hf1; have c0 := boxed hf1 0 _ rfl; have c1 := boxed hf1 1 _ rfl; have c2 := boxed hf1 2 _ rfl)
      | (go_at_call 71; refine (HV.out _).mono ?_; rintro e w2 ⟨rfl, hf2⟩; have hfr2 := hfr1.trans hf2)
      | (at_builtin; refine wpAppS w2 (o := ⟨some 41, _, _, _, _, _⟩) rfl (.tmp 40) (.const (.string ⟨#[102, 97, 108, 115, 101]⟩)) 9 rfl buf l [102, 97, 108, 115, 101] _ rfl rfl (HB.out.fr hfr2 (by simp)) (srcStr _ ⟨#[102, 97, 108, 115, 101]⟩) (by simp; omega) ?_; intro v1 w3 ho1 hs1))
    go_ret
    exact App.mk ho1 (Stp.pre hfr2 hs1)
  · simp only [valText, if_true]
    go_enter Tryz.func38, Tryz.ntmps38
    go_wp2_with (first
      | (go_at_call 63; refine (kind_num _ _ 5 rfl _).mono ?_; rintro e w1 ⟨rfl, hf1⟩; have hfr1 := ((Fr.refl [] w).alloc _).trans hf1; have c0 := boxed hf1 0 _ rfl; have c1 := boxed hf1 1 _ rfl; have c2 := boxed hf1 2 _ rfl)
      | (go_at_call 71; refine (HV.out _).mono ?_; rintro e w2 ⟨rfl, hf2⟩; have hfr2 := hfr1.trans hf2)
      | (at_builtin; refine wpAppS w2 (o := ⟨some 39, _, _, _, _, _⟩) rfl (.tmp 38) (.const (.string ⟨#[116, 114, 117, 101]⟩)) 9 rfl buf l [116, 114, 117, 101] _ rfl rfl (HB.out.fr hfr2 (by simp)) (srcStr _ ⟨#[116, 114, 117, 101]⟩) (by simp; omega) ?_; intro v1 w3 ho1 hs1))
    go_ret
    exact App.mk ho1 (Stp.pre hfr2 hs1)

set_option maxHeartbeats 1000000 in
theorem appBytes_int {B : Nat} {ea : Addr} (n : Int) (h0 : -9223372036854775808 ≤ n) (h1 : n ≤ 9223372036854775807) (buf : Value) (l : List UInt8) (w : World) (hG : Gv B ea w) (hB : Own w 5 buf l) (hl : l.length ≤ 900000000) (hBb : ∀ g, buf.ownBlock = some g → B ≤ g) :
    Calls Tryz.prog 38 #[.agg #[.int .u64 (n % 18446744073709551616), .slice none 0 0, .int .u8 2], buf] w (App w buf (l ++ (Lib.itoa n ++ [105]))) := by
  have HB := Lib.hid hB; clear hB
  have HG := Lib.hid hG; clear hG
  have HBb := Lib.hid hBb; clear hBb
  have hilen : (Lib.itoa n).length ≤ 21 := Lib.itoa_length_le n h0 h1
  obtain ⟨m, hm⟩ : ∃ m, m = n % 18446744073709551616 := ⟨_, rfl⟩
  have hiv : ∀ w, Calls Tryz.prog 68 #[.agg #[.int .u64 m, .slice none 0 0, .int .u8 2]] w fun e w' => e = .returned (.int .i64 n) ∧ Fr [] w w' := fun w => by rw [hm]; exact intV_any n h0 h1 _ w
  rw [← hm]
  have HV := Lib.hid hiv; clear hiv hm
  go_enter Tryz.func38, Tryz.ntmps38
  go_wp2_with (first
    | (go_at_call 63; refine (kind_num _ _ 2 rfl _).mono ?_; rintro e w1 ⟨rfl, hf1⟩; have hfr1 := ((Fr.refl [] w).alloc _).trans hf1; have c0 := boxed hf1 0 _ rfl; have c1 := boxed hf1 1 _ rfl; have c2 := boxed hf1 2 _ rfl)
    | (go_at_call 68; refine (HV.out _).mono ?_; rintro e w2 ⟨rfl, hf2⟩; have hfr2 := hfr1.trans hf2)
    | (go_at_call 67; refine (appendInt_any n h0 h1 buf l w2 (HG.out.fr hfr2 (by simp)) (HB.out.fr hfr2 (by simp)) hl HBb.out).mono ?_; rintro e w3 ⟨v3, rfl, ho3, hs3⟩; have HO3 := Lib.hid ho3; clear ho3)
    | (at_builtin; refine wpApp1 w3 (o := ⟨some 22, _, _, _, _, _⟩) rfl (.tmp 20) (.tmp 21) rfl v3 _ _ 105 rfl rfl rfl HO3.out (by simp; omega) ?_; intro v4 w4 ho4 hs4))
  go_ret
  exact App.mk (by simpa using ho4) (Stp.pre hfr2 (Stp.trans hs3 hs4))

set_option maxHeartbeats 1000000 in
theorem appBytes_uint {B : Nat} {ea : Addr} (n : Nat) (h1 : n < 18446744073709551616) (buf : Value) (l : List UInt8) (w : World) (hG : Gv B ea w) (hB : Own w 5 buf l) (hl : l.length ≤ 900000000) :
    Calls Tryz.prog 38 #[.agg #[.int .u64 n, .slice none 0 0, .int .u8 3], buf] w (App w buf (l ++ (Lib.decDigits n ++ [117]))) := by
  have HB := Lib.hid hB; clear hB
  have HG := Lib.hid hG; clear hG
  have hilen : (Lib.decDigits n).length ≤ 20 := by
    rw [Lib.decDigits_length]
    by_cases h : 1 ≤ n
    · have := Lib.numDigits_eq n h h1; split at this <;> omega
    · have : n = 0 := by omega
      subst this; rw [Lib.nDigits_small (by omega)]; omega
  go_enter Tryz.func38, Tryz.ntmps38
  go_wp2_with (first
    | (go_at_call 63; refine (kind_num _ _ 3 rfl _).mono ?_; rintro e w1 ⟨rfl, hf1⟩; have hfr1 := ((Fr.refl [] w).alloc _).trans hf1; have c0 := boxed hf1 0 _ rfl; have c1 := boxed hf1 1 _ rfl; have c2 := boxed hf1 2 _ rfl)
    | (go_at_call 70; refine (uintV_any _ _ _).mono ?_; rintro e w2 ⟨rfl, hf2⟩; have hfr2 := hfr1.trans hf2)
    | (go_at_call 69; refine (appendUintP_any n h1 buf l w2 (HG.out.fr hfr2 (by simp)) (HB.out.fr hfr2 (by simp)) (by omega)).mono ?_; rintro e w3 ⟨v3, rfl, ho3, hs3⟩; have HO3 := Lib.hid ho3; clear ho3)
    | (at_builtin; refine wpApp1 w3 (o := ⟨some 32, _, _, _, _, _⟩) rfl (.tmp 30) (.tmp 31) rfl v3 _ _ 117 rfl rfl rfl HO3.out (by simp; omega) ?_; intro v4 w4 ho4 hs4))
  go_ret
  exact App.mk (by simpa using ho4) (Stp.pre hfr2 (Stp.trans hs3 hs4))

set_option maxHeartbeats 1000000 in
theorem appBytes_flt {F : Nat → List UInt8} {fin : Nat → Prop} (hF : FloatSaid F fin) {B : Nat} {ea : Addr} (n : Nat) (hn : fin n) (buf : Value) (l : List UInt8) (w : World) (hG : Gv B ea w) (hB : Own w 5 buf l) (hl : l.length ≤ 900000000) (hBb : ∀ g, buf.ownBlock = some g → B ≤ g) :
    Calls Tryz.prog 38 #[.agg #[.int .u64 n, .slice none 0 0, .int .u8 4], buf] w (App w buf (l ++ F n)) := by
  have HB := Lib.hid hB; clear hB
  have HG := Lib.hid hG; clear hG
  have HBb := Lib.hid hBb; clear hBb
  have HF := Lib.hid hF; clear hF
  have HN := Lib.hid hn; clear hn
  go_enter Tryz.func38, Tryz.ntmps38
  go_wp2_with (first
    | (go_at_call 63; refine (kind_num _ _ 4 rfl _).mono ?_; rintro e w1 ⟨rfl, hf1⟩; have hfr1 := ((Fr.refl [] w).alloc _).trans hf1; have c0 := boxed hf1 0 _ rfl; have c1 := boxed hf1 1 _ rfl; have c2 := boxed hf1 2 _ rfl)
    | (go_at_call 65; refine (floatV_any _ _ _).mono ?_; rintro e w2 ⟨rfl, hf2⟩; have hfr2 := hfr1.trans hf2)
    | (go_at_call 66; refine (HF.out B ea n buf l w2 HN.out (HG.out.fr hfr2 (by simp)) (HB.out.fr hfr2 (by simp)) hl HBb.out).mono ?_; rintro e w3 ⟨v3, rfl, ho3, hs3⟩))
  go_ret
  exact App.mk ho3 (Stp.pre hfr2 hs3)
end Go.Proofs.YtaaogjhaokaggaaGreatDoor
namespace Go.Proofs.YtaaogjhaokaggaaGreatDoor
open Go.RowKit

set_option maxHeartbeats 2000000 in
set_option maxRecDepth 100000 in
theorem appBytes_str (b : Value) (s : List UInt8) (hs : s.length ≤ 1000000) (buf : Value) (l : List UInt8) (w : World) (hS : Own w 5 b s) (hB : Own w 5 buf l) (hl : l.length ≤ 900000000) (hne : ∀ g, b.ownBlock = some g → buf.ownBlock ≠ some g) :
    Calls Tryz.prog 38 #[.agg #[.int .u64 0, b, .int .u8 0], buf] w (App w buf (l ++ ([34] ++ esc (tOf sS) s ++ [34]))) := by
  have HB := Lib.hid hB; clear hB
  have HS := Lib.hid hS; clear hS
  have HNE := Lib.hid hne; clear hne
  obtain ⟨S, hSS⟩ : ∃ S : ByteArray, S = ⟨s.toArray⟩ := ⟨_, rfl⟩
  have hSd : S.data.toList = s := by rw [hSS]
  have hSz : S.size ≤ 1000000 := by rw [hSS]; show s.toArray.size ≤ 1000000; simpa using hs
  have hel := esc_len (tOf sS) s
  have HSS := Lib.hid hSS; clear hSS
  have HSD := Lib.hid hSd; clear hSd
  go_enter Tryz.func38, Tryz.ntmps38
  go_upto_region 19 with (first
    | (go_at_call 63; refine (kind_str _ _ _).mono ?_; rintro e w1 ⟨rfl, hf1⟩; have hfr1 := ((Fr.refl [] w).alloc _).trans hf1; have c0 := boxed hf1 0 _ rfl; have c1 := boxed hf1 1 _ rfl; have c2 := boxed hf1 2 _ rfl)
    | (at_builtin; refine wpApp1 w1 (o := ⟨some 46, _, _, _, _, _⟩) rfl (.tmp 44) (.tmp 45) rfl buf l _ 34 rfl rfl rfl (HB.out.fr hfr1 (by simp)) (by omega) ?_; intro v2 w2 ho2 hs2))
  have hz1 : w.heap.size < w1.heap.size := by have := hf1.size; simp at this; omega
  have hbuf : ∀ g, buf.ownBlock = some g → g < w.heap.size := HB.out.lt
  have hbw : ∀ g, b.ownBlock = some g → g < w.heap.size := HS.out.lt
  have hbox : w.heap.size ∉ buf.ownBlock.toList := fun hm => by have := hbuf _ (by simpa using hm); omega
  have cb : w2.cell? ⟨w.heap.size, 1, none⟩ = some b := hs2.1.cell c1 hbox
  have hSb : Own w2 5 b s := hs2.own (HS.out.fr hfr1 (by simp)) HNE.out
  have hvb : ∀ g, b.ownBlock = some g → v2.ownBlock ≠ some g := by
    intro g hg hv
    rcases hs2.2 with h | ⟨g', h, h'⟩
    · exact HNE.out g hg (h ▸ hv)
    · have := hbw g hg; rw [h] at hv; cases hv; omega
  have hv2 : ∀ g, v2.ownBlock = some g → g < w2.heap.size := ho2.lt
  have hcv2 : (convert 66 9 b).run Tryz.prog w2.drew = .ok (.string S) w2.drew := by rw [HSS.out]; exact conv_own (show Own w2.drew 5 b s from hSb)
  have HSB := Lib.hid hSb; clear hSb
  have HO2 := Lib.hid ho2; clear ho2
  have HL := Lib.hid (show (l ++ [34]).length ≤ 1000000000 by simp; omega)
  clear c0 c1 c2
  go_region_with (first
    | (go_at_call 72; refine (escS_any _).mono ?_; rintro e w3 ⟨rfl, hE3, hf3d⟩; have hf3 := (Fr.refl [] w2).drew.trans hf3d; have c3 := hf3.cell (p := ⟨w.heap.size, 1, none⟩) cb (by simp); have hcv3 : (convert 66 9 b).run Tryz.prog w3 = .ok (.string S) w3 := (by rw [HSS.out]; exact conv_own (HSB.out.fr hf3 (by simp))))
    | (go_at_call 73; refine (appendEscaped_any (tOf sS) _ S _ v2 _ hSz HL.out hE3 (HO2.out.fr hf3 (by simp)) (fun g hg => by have := hv2 g hg; simp; omega)).mono ?_; rintro e w4 ⟨v4, rfl, ho4, hs4⟩))
  all_goals
    have HO4 := Lib.hid ho4; clear ho4
    go_wp2_with (at_builtin; refine wpApp1 w4 (o := ⟨some 55, _, _, _, _, _⟩) rfl (.tmp 53) (.tmp 54) rfl v4 _ _ 34 rfl rfl rfl HO4.out (by rw [HSD.out]; simp; omega) ?_; intro v5 w5 ho5 hs5)
    go_ret
    exact App.mk (by rw [HSD.out] at ho5; simpa using ho5) (Stp.pre hfr1 (Stp.trans hs2 (Stp.pre hf3 (Stp.trans hs4 hs5))))

/-- AppendBytes, of any value. -/
theorem appBytes_any {F : Nat → List UInt8} {fin : Nat → Prop} (hF : FloatSaid F fin) {B : Nat} {ea : Addr} (v : Value) (x : Val) (hx : ∀ n, x = .flt n → fin n) (hxs : ∀ s, x = .str s → s.length ≤ 1000000) (buf : Value) (l : List UInt8) (w : World) (hG : Gv B ea w) (hV : LV w v x) (hB : Own w 5 buf l) (hl : l.length ≤ 900000000)
    (hBb : ∀ g, buf.ownBlock = some g → B ≤ g) (hne : ∀ g, lvBlock v = some g → buf.ownBlock ≠ some g) :
    Calls Tryz.prog 38 #[v, buf] w (App w buf (l ++ valText F x)) := by
  cases x with
  | str s =>
    obtain ⟨b, rfl, hb⟩ := hV
    exact appBytes_str b s (hxs s rfl) buf l w hb hB hl (fun g hg => hne g (by simpa [lvBlock] using hg))
  | int n =>
    obtain ⟨rfl, h0, h1⟩ := hV
    exact appBytes_int n h0 h1 buf l w hG hB hl hBb
  | uint n =>
    obtain ⟨rfl, h1⟩ := hV
    exact appBytes_uint n h1 buf l w hG hB hl
  | flt n =>
    obtain rfl := hV
    exact appBytes_flt hF n (hx n rfl) buf l w hG hB hl hBb
  | bool b =>
    obtain rfl := hV
    exact appBytes_bool b buf l w hB hl F
end Go.Proofs.YtaaogjhaokaggaaGreatDoor
