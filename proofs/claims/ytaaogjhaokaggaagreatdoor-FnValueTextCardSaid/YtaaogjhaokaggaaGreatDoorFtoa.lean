import Derived.Test.YtaaogjhaokaggaaGreatDoorFmtG
import Derived.Test.YtaaogjhaokaggaaGreatDoorFlt6
import Derived.Test.YtaaogjhaokaggaaGreatDoorFlt3
import Derived.Test.YtaaogjhaokaggaaGreatDoorVal
import Derived.Sort.AtCall
namespace Go.Proofs.YtaaogjhaokaggaaGreatDoor
open Go.RowKit

theorem run_bits136 (w : World) (n : Nat) : (callFunc 136 #[.float .f64 n]).run Tryz.prog w = .ok (.value (.int .u64 n)) w := by
  rw [run_callFunc_extern Tryz.func136 (by kernel_rfl) (by kernel_rfl) (by kernel_rfl) (e := Extern.MathFloatBits.float64bits) (by kernel_rfl)]
  rfl

theorem fE (n : Nat) (hn : n < 18446744073709551616) : bits .and .i64 ((n : Int) / 4503599627370496) 2047 = ((n / 4503599627370496 % 2048 : Nat) : Int) := by
  have h := bits_mask .i64 63 (by decide) (fun n a b => by rw [IntKind.wrap_i64]; omega) 11 (by decide) ((n : Int) / 4503599627370496) (by omega) (by omega)
  rw [show (2047 : Int) = 2 ^ 11 - 1 by decide, h]
  omega
theorem fM (n : Nat) (hn : n < 18446744073709551616) : bits .and .u64 (n : Int) 4503599627370495 = ((n % 4503599627370496 : Nat) : Int) := by
  have h := bits_mask .u64 64 (by decide) (fun n a b => by rw [IntKind.wrap_u64]; omega) 52 (by decide) (n : Int) (by omega) (by omega)
  rw [show (4503599627370495 : Int) = 2 ^ 52 - 1 by decide, h]
  omega
theorem fOr (M : Nat) (hM : M < 4503599627370496) : bits .or .u64 (M : Int) 4503599627370496 = ((M + 4503599627370496 : Nat) : Int) := by
  have h := (bits_nat .u64 64 (by decide) (fun n a b => by rw [IntKind.wrap_u64]; omega) M 4503599627370496 (by omega) (by decide)).2
  have e : M ||| 4503599627370496 = M + 4503599627370496 := by
    have := Nat.two_pow_add_eq_or_of_lt (i := 52) (b := M) hM 1
    rw [Nat.or_comm, Nat.add_comm]
    simpa using this.symm
  rw [e] at h
  exact h

set_option maxRecDepth 100000 in
set_option maxHeartbeats 2000000 in
theorem ftoa_zero (neg : Bool) (n : Nat) (hn : n < 18446744073709551616) (h0 : n % 9223372036854775808 = 0) (hs : neg = ((n : Int) / 9223372036854775808 != 0)) (buf : Value) (l : List UInt8) (w : World) (hO : Own w 5 buf l) (hl : l.length ≤ 900000000) :
    Calls Tryz.prog 112 #[buf, .float .f64 n, .int .u8 103, .int .i64 (-1)] w (App w buf (l ++ fText neg [] 0)) := by
  have hb := fun w => run_bits136 w n
  have hE : bits .and .i64 ((n : Int) / 4503599627370496) 2047 = 0 := by
    rw [fE n hn, show n / 4503599627370496 % 2048 = 0 by omega]; rfl
  have hM : bits .and .u64 (n : Int) 4503599627370495 = 0 := by
    rw [fM n hn, show n % 4503599627370496 = 0 by omega]; rfl
  have HF := Lib.hid (fun w hO => fmt0_any neg buf l w hO hl)
  have HO := Lib.hid hO; clear hO
  have hs2 : ((n : Int) / 9223372036854775808 != 0) = neg := hs.symm
  clear hs h0
  go_enter Tryz.func112, Tryz.ntmps112
  go_wp2_with fail
  go_quiet (fail)
  go_wp2_with (go_at_call 139; refine (HF.out _ (HO.out.fr ((Fr.refl [] _).drewN nq) (fun _ _ => List.not_mem_nil))).mono ?_; rintro e w2 ⟨v2, rfl, ho2, hs2⟩; have HO2 := Lib.hid ho2; have HS2 := Lib.hid hs2; clear ho2 hs2)

  go_ret
  exact App.pre ((Fr.refl _ _).drewN nq) ⟨v2, rfl, HO2.out, HS2.out⟩
end Go.Proofs.YtaaogjhaokaggaaGreatDoor
