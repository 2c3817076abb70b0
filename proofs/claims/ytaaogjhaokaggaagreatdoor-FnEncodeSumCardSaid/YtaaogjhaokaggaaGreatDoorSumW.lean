import Derived.Test.YtaaogjhaokaggaaGreatDoorSum
import Derived.Test.YtaaogjhaokaggaaGreatDoorLawsE
import Derived.BigQuiet
namespace Go.Proofs.YtaaogjhaokaggaaGreatDoor
open Go.RowKit

/-- The two calls that the law lays first. -/
def sum0 : Array Value := #[.int .i64 0, .string ⟨#[109]⟩, .string ⟨#[]⟩, .int .i64 0, .string ⟨#[]⟩, .int .i64 0, .int .u64 0, .float .f64 0, .bool false, .int .i64 0, .int .i64 0, .bool false,
  .int .i64 2, .string ⟨#[102]⟩, .string ⟨#[]⟩, .int .i64 5, .string ⟨#[]⟩, .int .i64 0, .int .u64 0, .float .f64 0, .bool false, .int .i64 0, .int .i64 0, .bool false]
def end0 (n m : Int) : Array Value := #[.int .i64 3, .string ⟨#[]⟩, .string ⟨#[]⟩, .int .i64 0, .string ⟨#[]⟩, .int .i64 0, .int .u64 0, .float .f64 0, .bool false, .int .i64 n, .int .i64 m, .bool false]
theorem sum_cells (n m : Int) : (sumL n m).flatMap (·.cells.toList) = sum0.toList ++ (end0 n m).toList := rfl

set_option maxRecDepth 100000 in
set_option maxHeartbeats 4000000 in
theorem sum_walk (hV : ValidSaid) {ea : Addr} {B0 : Nat} (n m : Int) (hn0 : -9223372036854775808 ≤ n) (hn1 : n ≤ 9223372036854775807) (hm0 : -9223372036854775808 ≤ m) (hm1 : m ≤ 9223372036854775807) (w : World) (hG : Gl B0 ea w) :
    Calls Tryz.prog 9 #[.int .i64 n, .int .i64 m] w fun e w' => e = .returned (.bool true) ∧ Fr [] w w' := by
  obtain ⟨i38, hi38, hz38, hs38, hb38⟩ := parts_c info38
  obtain ⟨w1, hw1⟩ : ∃ x, x = w.alloc (.cells sum0 38) := ⟨_, rfl⟩
  have hf1 : Fr [] w w1 := by rw [hw1]; exact (Fr.refl _ _).alloc _
  have hO1 : OwnC w1 38 12 (.slice (some ⟨w.heap.size, 0, none⟩) 2 2) 2 sum0.toList := by
    refine ⟨rfl, by decide, .inr ⟨w.heap.size, 2, rfl, sum0, (0, 0), by rw [hw1]; exact heap_alloc_new _ _, fun j _ h => by omega, by decide, by decide, rfl⟩⟩
  have HW1 := Lib.hid hw1
  have HF1 := Lib.hid hf1
  have HO1 := Lib.hid hO1
  have HG1 := Lib.hid (hG.fr hf1 (by simp))
  have HE0 := Lib.hid (show ∀ u ∈ (end0 n m).toList, u.oneCell' = true by simp [end0, Value.oneCell'])
  clear hw1 hf1 hO1 hG
  go_enter Tryz.func9, Tryz.ntmps9
  go_upto_region 2 with fail
  rw [show w.alloc (.cells #[.int .i64 0, .string ⟨#[109]⟩, .string ⟨#[]⟩, .int .i64 0, .string ⟨#[]⟩, .int .i64 0, .int .u64 0, .float .f64 0, .bool false, .int .i64 0, .int .i64 0, .bool false,
    .int .i64 2, .string ⟨#[102]⟩, .string ⟨#[]⟩, .int .i64 5, .string ⟨#[]⟩, .int .i64 0, .int .u64 0, .float .f64 0, .bool false, .int .i64 0, .int .i64 0, .bool false] 38) = w1 from HW1.out.symm]
  go_upto_region 3 with (first
    | (at_builtin; refine wpApp1G w1 (o := ⟨some 23, _, _, _, _, _⟩) rfl (.tmp 18) (.tmp 22) 39 rfl 38 i38 _ Tryz.underlying39 hi38 hz38 12 hs38 hb38 rfl (some ⟨w.heap.size, 0, none⟩) 2 2 sum0.toList (end0 n m) rfl HE0.out rfl rfl HO1.out (by decide) (by decide) ?_; intro v5 w5 ho5 hf5 hb5; have HF5 := Lib.hid hf5; have HO5 := Lib.hid ho5; clear ho5 hf5 hb5)
    | (go_at_call 23; refine (sum_encode hV n m hn0 hn1 hm0 hm1 v5 w5 (HG1.out.fr HF5.out (by simp)) (by rw [sum_cells]; exact HO5.out)).mono ?_; rintro e w6 ⟨s, g, cap, er, out, rfl, hf6, hcap, d6, d7, hx1, hx2⟩; have HX1 := Lib.hid hx1; have HX2 := Lib.hid hx2; clear hx1 hx2))
  have HF16 : Hid (Fr [] w w6) := Lib.hid ((HF1.out.trans HF5.out).trans hf6)
  have HO6 := Lib.hid (HO1.out.fr (HF5.out.trans hf6) (by simp))
  have HG6 := Lib.hid (HG1.out.fr (HF5.out.trans hf6) (by simp))
  clear hf6
  rcases (show (m > 0 ∧ n > 9223372036854775807 - m) ∨ (m < 0 ∧ n < -9223372036854775808 - m) ∨ (m > 0 ∧ ¬ n > 9223372036854775807 - m) ∨ (m < 0 ∧ ¬ n < -9223372036854775808 - m) ∨ m = 0 by omega) with ⟨k1, k2⟩ | ⟨k1, k2⟩ | ⟨k1, k2⟩ | ⟨k1, k2⟩ | k1
  · have e1 : decide (m > 0) = true := decide_eq_true k1
    have e2 : decide (wrap64 (9223372036854775807 - m) < n) = true := decide_eq_true (by unfold wrap64; omega)
    obtain ⟨rfl, rfl, rfl⟩ := HX1.out (by omega)
    go_wp2_with fail
    go_ret
    exact ⟨rfl, HF16.out⟩
  · have e1 : decide (m > 0) = false := decide_eq_false (by omega)
    have e2 : decide (m < 0) = true := decide_eq_true k1
    have e3 : decide (n < wrap64 (-9223372036854775808 - m)) = true := decide_eq_true (by unfold wrap64; omega)
    obtain ⟨rfl, rfl, rfl⟩ := HX1.out (by omega)
    go_wp2_with fail
    go_ret
    exact ⟨rfl, HF16.out⟩
  · have e1 : decide (m > 0) = true := decide_eq_true k1
    have e2 : decide (wrap64 (9223372036854775807 - m) < n) = false := decide_eq_false (by unfold wrap64; omega)
    have e3 : decide (m < 0) = false := decide_eq_false (by omega)
    have hnear : ¬ (n + m < -9223372036854775808 ∨ n + m > 9223372036854775807) := by omega
    obtain ⟨hs, rfl, rfl⟩ := HX2.out hnear
    have HS := Lib.hid hs
    have HN := Lib.hid hnear
    have hsne : s.toList.isEmpty = false := by rw [hs, ByteArray.toList_eq]; rfl
    have hnm0 : -9223372036854775808 ≤ n + m := by omega
    have hnm1 : n + m ≤ 9223372036854775807 := by omega
    have HK1 := Lib.hid k1
    clear hs hnear k1
    go_upto_region 8 with (first
      | (at_builtin; refine wpApp1G w6 (o := ⟨some 75, _, _, _, _, _⟩) rfl (.tmp 69) (.tmp 74) 39 rfl 38 i38 _ Tryz.underlying39 hi38 hz38 12 hs38 hb38 rfl (some ⟨w.heap.size, 0, none⟩) 2 2 sum0.toList (end0 (n + m) 0) rfl (by simp [end0, Value.oneCell']) rfl rfl HO6.out (by decide) (by decide) ?_; intro v7 w7 ho7 hf7 hb7; have HF7 := Lib.hid hf7; have HO7 := Lib.hid ho7; clear ho7 hf7 hb7)
      | (go_at_call 23; refine (sum_encode hV (n + m) 0 hnm0 hnm1 (by decide) (by decide) v7 w7 (HG6.out.fr HF7.out (by simp)) (by rw [sum_cells]; exact HO7.out)).mono ?_; rintro e w8 ⟨s2, g2, cap2, er2, out2, rfl, hf8, hcap2, z6, z7, hy1, hy2⟩; have HY2 := Lib.hid hy2; clear hy1 hy2))
    obtain ⟨hs2, rfl, rfl⟩ := HY2.out (by have := HN.out; omega)
    have hss : s2 = s := by rw [hs2, HS.out, Int.add_zero]
    subst hss
    have d6' := hf8.cell (HF7.out.cell d6 (by simp)) (by simp)
    clear hs2
    have HF8 := Lib.hid (HF16.out.trans (HF7.out.trans hf8))
    go_wp2_with fail
    go_ret
    exact ⟨rfl, HF8.out⟩
  · have e1 : decide (m > 0) = false := decide_eq_false (by omega)
    have e2 : decide (m < 0) = true := decide_eq_true k1
    have e3 : decide (n < wrap64 (-9223372036854775808 - m)) = false := decide_eq_false (by unfold wrap64; omega)
    have hnear : ¬ (n + m < -9223372036854775808 ∨ n + m > 9223372036854775807) := by omega
    obtain ⟨hs, rfl, rfl⟩ := HX2.out hnear
    have HS := Lib.hid hs
    have HN := Lib.hid hnear
    have hsne : s.toList.isEmpty = false := by rw [hs, ByteArray.toList_eq]; rfl
    have hnm0 : -9223372036854775808 ≤ n + m := by omega
    have hnm1 : n + m ≤ 9223372036854775807 := by omega
    have HK1 := Lib.hid k1
    clear hs hnear k1
    go_upto_region 8 with (first
      | (at_builtin; refine wpApp1G w6 (o := ⟨some 75, _, _, _, _, _⟩) rfl (.tmp 69) (.tmp 74) 39 rfl 38 i38 _ Tryz.underlying39 hi38 hz38 12 hs38 hb38 rfl (some ⟨w.heap.size, 0, none⟩) 2 2 sum0.toList (end0 (n + m) 0) rfl (by simp [end0, Value.oneCell']) rfl rfl HO6.out (by decide) (by decide) ?_; intro v7 w7 ho7 hf7 hb7; have HF7 := Lib.hid hf7; have HO7 := Lib.hid ho7; clear ho7 hf7 hb7)
      | (go_at_call 23; refine (sum_encode hV (n + m) 0 hnm0 hnm1 (by decide) (by decide) v7 w7 (HG6.out.fr HF7.out (by simp)) (by rw [sum_cells]; exact HO7.out)).mono ?_; rintro e w8 ⟨s2, g2, cap2, er2, out2, rfl, hf8, hcap2, z6, z7, hy1, hy2⟩; have HY2 := Lib.hid hy2; clear hy1 hy2))
    obtain ⟨hs2, rfl, rfl⟩ := HY2.out (by have := HN.out; omega)
    have hss : s2 = s := by rw [hs2, HS.out, Int.add_zero]
    subst hss
    have d6' := hf8.cell (HF7.out.cell d6 (by simp)) (by simp)
    clear hs2
    have HF8 := Lib.hid (HF16.out.trans (HF7.out.trans hf8))
    go_wp2_with fail
    go_ret
    exact ⟨rfl, HF8.out⟩
  · have e1 : decide (m > 0) = false := decide_eq_false (by omega)
    have e2 : decide (m < 0) = false := decide_eq_false (by omega)
    have hnear : ¬ (n + m < -9223372036854775808 ∨ n + m > 9223372036854775807) := by omega
    obtain ⟨hs, rfl, rfl⟩ := HX2.out hnear
    have HS := Lib.hid hs
    have HN := Lib.hid hnear
    have hsne : s.toList.isEmpty = false := by rw [hs, ByteArray.toList_eq]; rfl
    have hnm0 : -9223372036854775808 ≤ n + m := by omega
    have hnm1 : n + m ≤ 9223372036854775807 := by omega
    have HK1 := Lib.hid k1
    clear hs hnear k1
    go_upto_region 8 with (first
      | (at_builtin; refine wpApp1G w6 (o := ⟨some 75, _, _, _, _, _⟩) rfl (.tmp 69) (.tmp 74) 39 rfl 38 i38 _ Tryz.underlying39 hi38 hz38 12 hs38 hb38 rfl (some ⟨w.heap.size, 0, none⟩) 2 2 sum0.toList (end0 (n + m) 0) rfl (by simp [end0, Value.oneCell']) rfl rfl HO6.out (by decide) (by decide) ?_; intro v7 w7 ho7 hf7 hb7; have HF7 := Lib.hid hf7; have HO7 := Lib.hid ho7; clear ho7 hf7 hb7)
      | (go_at_call 23; refine (sum_encode hV (n + m) 0 hnm0 hnm1 (by decide) (by decide) v7 w7 (HG6.out.fr HF7.out (by simp)) (by rw [sum_cells]; exact HO7.out)).mono ?_; rintro e w8 ⟨s2, g2, cap2, er2, out2, rfl, hf8, hcap2, z6, z7, hy1, hy2⟩; have HY2 := Lib.hid hy2; clear hy1 hy2))
    obtain ⟨hs2, rfl, rfl⟩ := HY2.out (by have := HN.out; omega)
    have hss : s2 = s := by rw [hs2, HS.out, Int.add_zero]
    subst hss
    have d6' := hf8.cell (HF7.out.cell d6 (by simp)) (by simp)
    clear hs2
    have HF8 := Lib.hid (HF16.out.trans (HF7.out.trans hf8))
    go_wp2_with fail
    go_ret
    exact ⟨rfl, HF8.out⟩
end Go.Proofs.YtaaogjhaokaggaaGreatDoor
