import Derived.Test.YtaaogjhaokaggaaGreatDoorGl
import Derived.Laws.BitsLemmas
import Derived.BigQuiet
import Derived.Deep.QuietTactic
namespace Go.Proofs.YtaaogjhaokaggaaGreatDoor
open Go.RowKit

theorem l10_any (x : Int) (h0 : -2000 ≤ x) (h1 : x ≤ 2000) (w : World) :
    Calls Tryz.prog 125 #[.int .i64 x] w fun e w' => e = .returned (.int .i64 (x * 78913 / 262144)) ∧ w' = w := by
  go_enter Tryz.func125, Tryz.ntmps125
  go_wp2
  go_ret
  exact ⟨rfl, rfl⟩
theorem l2_any (x : Int) (h0 : -2000 ≤ x) (h1 : x ≤ 2000) (w : World) :
    Calls Tryz.prog 167 #[.int .i64 x] w fun e w' => e = .returned (.int .i64 (x * 108853 / 32768)) ∧ w' = w := by
  go_enter Tryz.func167, Tryz.ntmps167
  go_wp2
  go_ret
  exact ⟨rfl, rfl⟩
theorem skew_any (x : Int) (h0 : -2000 ≤ x) (h1 : x ≤ 2000) (w : World) :
    Calls Tryz.prog 165 #[.int .i64 x] w fun e w' => e = .returned (.int .i64 ((x * 631305 - 261663) / 2097152)) ∧ w' = w := by
  go_enter Tryz.func165, Tryz.ntmps165
  go_wp2
  go_ret
  exact ⟨rfl, rfl⟩
theorem b2_any (b : Bool) (w : World) :
    Calls Tryz.prog 187 #[.bool b] w fun e w' => e = .returned (.int .u64 (if b then 1 else 0)) ∧ w' = w := by
  cases b
  · go_enter Tryz.func187, Tryz.ntmps187
    go_wp2
    go_ret
    exact ⟨rfl, rfl⟩
  · go_enter Tryz.func187, Tryz.ntmps187
    go_wp2
    go_ret
    exact ⟨rfl, rfl⟩
theorem nudge_any (u d : Int) (w : World) : Calls Tryz.prog 169 #[.int .u64 u, .int .i64 d] w fun e w' => e = .returned (.int .u64 (IntKind.u64.wrap (u + IntKind.u64.wrap d))) ∧ w' = w := by
  go_enter Tryz.func169, Tryz.ntmps169
  go_wp2
  go_ret
  exact ⟨rfl, rfl⟩
theorem ceil_any (u : Int) (w : World) : Calls Tryz.prog 170 #[.int .u64 u] w fun e w' => e = .returned (.int .u64 (IntKind.u64.wrap (u + 3) / 4)) ∧ w' = w := by
  go_enter Tryz.func170, Tryz.ntmps170
  go_wp2
  go_ret
  exact ⟨rfl, rfl⟩
/-- A call that reads its arguments alone: whatever it answers, it answers it in every world. -/
theorem floor_ex (u : Int) : ∃ r : Int, (0 ≤ u → u < 18446744073709551616 → r = u / 4) ∧ ∀ w, Calls Tryz.prog 171 #[.int .u64 u] w fun e w' => e = .returned (.int .u64 r) ∧ w' = w := by
  apply Exists.intro
  refine ⟨?hh, fun w => ?cc⟩
  case cc =>
    go_enter Tryz.func171, Tryz.ntmps171
    go_wp2
    go_ret
    exact ⟨rfl, rfl⟩
  case hh =>
    intro h0 h1
    rw [IntKind.wrap_u64]; omega
theorem round_ex (u : Int) : ∃ r : Int, (0 ≤ r ∧ r < 18446744073709551616) ∧ ∀ w, Calls Tryz.prog 172 #[.int .u64 u] w fun e w' => e = .returned (.int .u64 r) ∧ w' = w := by
  apply Exists.intro
  refine ⟨?hh, fun w => ?cc⟩
  case cc =>
    go_enter Tryz.func172, Tryz.ntmps172
    go_wp2
    go_ret
    exact ⟨rfl, rfl⟩
  case hh =>
    rw [IntKind.wrap_u64]; omega
theorem and63 (s : Int) (h0 : 0 ≤ s) (h1 : s < 64) : bits .and .i64 s 63 = s := by
  have h := bits_mask .i64 63 (by decide) (fun n a b => by rw [IntKind.wrap_i64]; omega) 6 (by decide) s h0 (by omega)
  have e : s % 2 ^ 6 = s := Int.emod_eq_of_lt h0 (by omega)
  rw [e] at h
  exact h

theorem ten_lt (i : Nat) : (p10 i).1 < 18446744073709551616 ∧ (p10 i).2 < 18446744073709551616 := by
  have h : (Go.Pinned.pow10Rows.all fun x => decide (x.1 < 18446744073709551616) && decide (x.2 < 18446744073709551616)) = true := by kernel_rfl
  unfold p10
  cases hx : Go.Pinned.pow10Rows[i]? with
  | none => decide
  | some x =>
    have := List.all_eq_true.1 h x (List.mem_of_getElem? hx)
    simp at this
    exact this
set_option maxRecDepth 100000 in
theorem prescale_any {B : Nat} {ea : Addr} (b i : Nat) (hi : i < 696) (e lp : Int) (he0 : -4000 ≤ e) (he1 : e ≤ 4000) (hl0 : -4000 ≤ lp) (hl1 : lp ≤ 4000) (x y z : Int) (w : World) (hG : Gv B ea w) (hb : 9 ≤ b) (hr : w.heap[b]? = some (.cells #[.int .u64 x, .int .u64 y, .int .i64 z] 209 (0, 0))) :
    Calls Tryz.prog 166 #[.pointer (some ⟨b, 0, none⟩), .int .i64 e, .int .i64 ((i : Int) - 348), .int .i64 lp] w fun ε w' => ε = .returned (.tuple #[]) ∧ w'.heap[b]? = some (.cells #[.int .u64 (p10 i).1, .int .u64 (p10 i).2, .int .i64 (-(e + lp + 3))] 209 (0, 0)) ∧ Fr [b] w w' := by
  obtain ⟨t0, t1⟩ := hG.p10 i hi
  rw [Nat.mul_comm] at t0 t1
  have hn1 : ¬ 8 = b := by omega
  have hn2 : ¬ b = 8 := by omega
  have d0 := cell_of_row w b 0 _ 209 _ hr
  have d1 := cell_of_row w b 1 _ 209 _ hr
  have d2 := cell_of_row w b 2 _ 209 _ hr
  have f0 := frozen_of_row w b 0 _ 209 hr
  have f1 := frozen_of_row w b 1 _ 209 hr
  have f2 := frozen_of_row w b 2 _ 209 hr
  have HR := Lib.hid hr
  have k0 : (0 : Int) ≤ (i : Int) := by omega
  have k1 : (i : Int) < 696 := by omega
  have k2 : wrap64 ((i : Int) - 348 + 348) = (i : Int) := by unfold wrap64; omega
  clear hG hr
  go_enter Tryz.func166, Tryz.ntmps166
  go_wp2_with fail
  go_end0
  refine ⟨rfl, ?_, ?_⟩
  · skip
    exact heap_setCell_same _ _ 2 _ 209 _ (heap_setCell_same _ _ 1 _ 209 _ (heap_setCell_same _ _ 0 _ 209 _ HR.out))
  · exact (((Fr.refl [b] w).setCell (.inl (by simp)) _).setCell (.inl (by simp)) _).setCell (.inl (by simp)) _
end Go.Proofs.YtaaogjhaokaggaaGreatDoor
