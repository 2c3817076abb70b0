/- Plain: what is looked at of each block and border, over the table of powers of ten. -/
import Derived.Test.YtaaogjhaokaggaaGreatDoorGlN
import Derived.Test.YtaaogjhaokaggaaGreatDoorInjA
namespace Go.Proofs.YtaaogjhaokaggaaGreatDoor
theorem okAll : (List.range 4143).all (Inj.okB p10) = true := by kernel_rfl
theorem bdAll : (List.range 4142).all (Inj.okC p10) = true := by kernel_rfl
theorem okP (j : Nat) (h : j < 4143) : Inj.Ok p10 j := Inj.ok_of _ _ (List.all_eq_true.1 okAll j (List.mem_range.2 h))
theorem bdP (j : Nat) (h : j + 1 < 4143) : Inj.top p10 j < Inj.bot p10 (j + 1) := by
  have := List.all_eq_true.1 bdAll j (List.mem_range.2 (by omega))
  unfold Inj.okC at this
  rw [Nat.blt_eq] at this
  exact this
theorem vlP_inj {j m j' m' : Nat} (hm : Inj.In j m) (hm' : Inj.In j' m') (h : Inj.vl p10 j m = Inj.vl p10 j' m') : j = j' ∧ m = m' := Inj.vl_inj okP bdP hm hm' h
theorem vlP_pos {j m : Nat} (hm : Inj.In j m) : 1 ≤ Inj.vl p10 j m := by
  refine Inj.vl_pos (okP j hm.1) hm ?_
  unfold Inj.dmn Inj.dmin
  have hO := okP j hm.1
  obtain ⟨f1, f2, f3, f4, f5, f6⟩ := Inj.blk_form j
  have h6 := f6 m hm.2.1
  have hd : (Inj.blk j).dn ≤ 4611686018427387904 := by
    by_cases h : j ≤ 52
    · rw [Inj.blk_lo h]
      exact Nat.le_trans (Nat.pow_le_pow_right (n := 2) (by decide) (show 62 - j ≤ 62 by omega)) (by decide)
    · by_cases h2 : (j - 53) % 2 = 0
      · rw [Inj.blk_sk h h2]; show 512 ≤ 4611686018427387904; decide
      · rw [Inj.blk_no h h2]; show 1024 ≤ 4611686018427387904; decide
  have := Inj.usq_pos (p10 (Inj.blk j).i).1 (p10 (Inj.blk j).i).2 (Inj.blk j).s (m * 2 ^ (Inj.blk j).z - (Inj.blk j).dn) hO.lo1 hO.hi0 hO.s1 (by omega)
  omega
end Go.Proofs.YtaaogjhaokaggaaGreatDoor
