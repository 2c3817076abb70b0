import Derived.Test.YtaaogjhaokaggaaGreatDoorFlt4
import Derived.Test.YtaaogjhaokaggaaGreatDoorValM
namespace Go.Proofs.YtaaogjhaokaggaaGreatDoor
open Go.RowKit

theorem run_bits2 (w : World) (n : Nat) : (callFunc 102 #[.float .f64 n]).run Tryz.prog w = .ok (.value (.int .u64 n)) w := run_bits w n
set_option maxRecDepth 100000 in
theorem abs_any (n : Nat) (w : World) : Calls Tryz.prog 131 #[.float .f64 n] w fun e w' => e = .returned (.float .f64 (n % 9223372036854775808)) ∧ w' = w := by
  have hb := fun w => run_bits w n
  have hf : ∀ w : World, (callFunc 104 #[.int .u64 ((n : Int) % 9223372036854775808)]).run Tryz.prog w = .ok (.value (.float .f64 (n % 9223372036854775808))) w := fun w => run_frombits w (n % 9223372036854775808)
  have ha := andNot63 n
  go_enter Tryz.func131, Tryz.ntmps131
  go_wp2
  go_ret
  exact ⟨rfl, rfl⟩
set_option maxRecDepth 100000 in
theorem isInf_any (n : Nat) (w : World) : Calls Tryz.prog 100 #[.float .f64 n, .int .i64 0] w fun e w' => e = .returned (.bool (decide (n % 9223372036854775808 = 9218868437227405312))) ∧ w' = w := by
  have hi := inf_any (n % 9223372036854775808) (Nat.mod_lt _ (by decide))
  go_enter Tryz.func100, Tryz.ntmps100
  go_wp2_with (go_at_call 131; refine (abs_any n _).mono ?_; rintro e w1 ⟨rfl, rfl⟩)
  rw [← hi]
  go_ret
  exact ⟨rfl, rfl⟩
set_option maxRecDepth 100000 in
theorem isNaN_any (n : Nat) (w : World) : Calls Tryz.prog 101 #[.float .f64 n] w fun e w' => e = .returned (.bool (decide (9218868437227405312 < n % 9223372036854775808))) ∧ w' = w := by
  rw [← nan_any]
  go_enter Tryz.func101, Tryz.ntmps101
  go_wp2
  go_ret
  exact ⟨rfl, rfl⟩
end Go.Proofs.YtaaogjhaokaggaaGreatDoor
