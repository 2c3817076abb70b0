import Derived.Test.YtaaogjhaokaggaaGreatDoorKeyS
import Derived.Test.YtaaogjhaokaggaaGreatDoorLawsE
import Derived.StillTailTactics
import Derived.BigQuiet
namespace Go.Proofs.YtaaogjhaokaggaaGreatDoor
open Go.RowKit

/-- Nothing asked: a text too long, no such place. -/
theorem key_skip (i : Int) (s t : ByteArray) (h : 1000 < s.size ∨ 1000 < t.size ∨ i < 0 ∨ 3 < i) (w : World) :
    Calls Tryz.prog 10 #[.int .i64 i, .string s, .string t] w fun e w' => e = .returned (.bool true) ∧ Fr [] w w' := by
  by_cases g1 : (2147483647 : Int) < s.size
  · have e1 : decide ((s.size : Int) > 2147483647) = true := decide_eq_true g1
    clear h
    go_enter Tryz.func10, Tryz.ntmps10
    go_wp2_with fail
    go_ret
    exact ⟨rfl, Fr.refl _ _⟩
  have e1 : decide ((s.size : Int) > 2147483647) = false := decide_eq_false g1
  by_cases g2 : (2147483647 : Int) < t.size
  · have e2 : decide ((t.size : Int) > 2147483647) = true := decide_eq_true g2
    clear h
    go_enter Tryz.func10, Tryz.ntmps10
    go_wp2_with fail
    go_ret
    exact ⟨rfl, Fr.refl _ _⟩
  have e2 : decide ((t.size : Int) > 2147483647) = false := decide_eq_false g2
  by_cases g3 : i < 0
  · have e3 : decide (i < 0) = true := decide_eq_true g3
    clear h
    go_enter Tryz.func10, Tryz.ntmps10
    go_wp2_with fail
    go_ret
    exact ⟨rfl, Fr.refl _ _⟩
  have e3 : decide (i < 0) = false := decide_eq_false g3
  by_cases g4 : i > 3
  · have e4 : decide (i > 3) = true := decide_eq_true g4
    clear h
    go_enter Tryz.func10, Tryz.ntmps10
    go_wp2_with fail
    go_ret
    exact ⟨rfl, Fr.refl _ _⟩
  have e4 : decide (i > 3) = false := decide_eq_false g4
  by_cases g5 : (1000 : Int) < s.size
  · have e5 : decide ((s.size : Int) > 1000) = true := decide_eq_true g5
    clear h
    go_enter Tryz.func10, Tryz.ntmps10
    go_wp2_with fail
    go_ret
    exact ⟨rfl, Fr.refl _ _⟩
  have e5 : decide ((s.size : Int) > 1000) = false := decide_eq_false g5
  have e6 : decide ((t.size : Int) > 1000) = true := decide_eq_true (by omega)
  clear h
  go_enter Tryz.func10, Tryz.ntmps10
  go_wp2_with fail
  go_ret
  exact ⟨rfl, Fr.refl _ _⟩

/-- The four calls as the law lays them. -/
def key0 (a b c d : ByteArray) : Array Value := #[.int .i64 0, .string a, .string ⟨#[]⟩, .int .i64 0, .string ⟨#[]⟩, .int .i64 0, .int .u64 0, .float .f64 0, .bool false, .int .i64 0, .int .i64 0, .bool false,
  .int .i64 1, .string b, .string c, .int .i64 0, .string ⟨#[]⟩, .int .i64 0, .int .u64 0, .float .f64 0, .bool false, .int .i64 0, .int .i64 0, .bool false,
  .int .i64 2, .string d, .string ⟨#[]⟩, .int .i64 5, .string ⟨#[]⟩, .int .i64 0, .int .u64 0, .float .f64 0, .bool false, .int .i64 0, .int .i64 0, .bool false,
  .int .i64 3, .string ⟨#[]⟩, .string ⟨#[]⟩, .int .i64 0, .string ⟨#[]⟩, .int .i64 0, .int .u64 0, .float .f64 0, .bool false, .int .i64 1, .int .i64 0, .bool false]
theorem key_one (a b c d : ByteArray) : ∀ u ∈ (key0 a b c d).toList, u.oneCell' = true := by simp [key0, Value.oneCell']
theorem key_own (a b c d : ByteArray) (w : World) : OwnC (w.alloc (.cells (key0 a b c d) 38)) 38 12 (.slice (some ⟨w.heap.size, 0, none⟩) 4 4) 4 ((keyL a b c d).flatMap (·.cells.toList)) :=
  ⟨rfl, key_one a b c d, .inr ⟨w.heap.size, 4, rfl, key0 a b c d, (0, 0), heap_alloc_new w _, fun j _ h => by omega, by simp [key0], by decide, rfl⟩⟩
theorem ok_m : keyOk (⟨#[109]⟩ : ByteArray).data.toList = true := by kernel_rfl
theorem ok_k : keyOk (⟨#[107]⟩ : ByteArray).data.toList = true := by kernel_rfl
theorem ok_v : keyOk (⟨#[118]⟩ : ByteArray).data.toList = true := by kernel_rfl
theorem ok_f : keyOk (⟨#[102]⟩ : ByteArray).data.toList = true := by kernel_rfl
theorem ok_a : keyOk (⟨#[97]⟩ : ByteArray).data.toList = true := by kernel_rfl
theorem key_ok0 (s : ByteArray) : (!(keyOk s.data.toList && keyOk (⟨#[107]⟩ : ByteArray).data.toList && keyOk (⟨#[118]⟩ : ByteArray).data.toList && keyOk (⟨#[102]⟩ : ByteArray).data.toList)) = !keyOk s.data.toList := by
  rw [ok_k, ok_v, ok_f]; simp

set_option maxRecDepth 100000 in
set_option maxHeartbeats 8000000 in
theorem key_walk0 (hV : ValidSaid) {ea : Addr} {B0 : Nat} (s t : ByteArray) (hs : s.size ≤ 1000) (ht : t.size ≤ 1000) (w : World) (hG : Gl B0 ea w) :
    Calls Tryz.prog 10 #[.int .i64 0, .string s, .string t] w fun e w' => e = .returned (.bool true) ∧ Fr [] w w' := by
  have e1 : decide ((s.size : Int) > 2147483647) = false := decide_eq_false (by omega)
  have e2 : decide ((t.size : Int) > 2147483647) = false := decide_eq_false (by omega)
  have e3 : decide ((s.size : Int) > 1000) = false := decide_eq_false (by omega)
  have e4 : decide ((t.size : Int) > 1000) = false := decide_eq_false (by omega)
  obtain ⟨w1, hw1⟩ : ∃ x, x = w.alloc (.cells #[.string s, .string ⟨#[107]⟩, .string ⟨#[118]⟩, .string ⟨#[102]⟩] 9) := ⟨_, rfl⟩
  have hr1 : w1.heap[w.heap.size]? = some (.cells #[.string s, .string ⟨#[107]⟩, .string ⟨#[118]⟩, .string ⟨#[102]⟩] 9 (0, 0)) := by rw [hw1]; exact heap_alloc_new _ _
  have hf1 : Fr [] w w1 := by rw [hw1]; exact (Fr.refl _ _).alloc _
  have HW1 := Lib.hid hw1
  have HF1 := Lib.hid hf1
  have HR1 := Lib.hid hr1
  have HG := Lib.hid (hG.fr hf1 (by simp))
  have HKK := Lib.hid (key_ok0 s)
  clear hG hw1 hf1 hr1
  go_enter Tryz.func10, Tryz.ntmps10
  go_upto_region 7 with fail
  rw [show w.alloc (.cells #[.string s, .string ⟨#[107]⟩, .string ⟨#[118]⟩, .string ⟨#[102]⟩] 9) = w1 from HW1.out.symm]
  have c0 : w1.cell? ⟨w.heap.size, 0, none⟩ = some (.string s) := cell_of_row w1 w.heap.size 0 _ 9 _ HR1.out
  have c1 : w1.cell? ⟨w.heap.size, 1, none⟩ = some (.string ⟨#[107]⟩) := cell_of_row w1 w.heap.size 1 _ 9 _ HR1.out
  have c2 : w1.cell? ⟨w.heap.size, 2, none⟩ = some (.string ⟨#[118]⟩) := cell_of_row w1 w.heap.size 2 _ 9 _ HR1.out
  have c3 : w1.cell? ⟨w.heap.size, 3, none⟩ = some (.string ⟨#[102]⟩) := cell_of_row w1 w.heap.size 3 _ 9 _ HR1.out
  go_region_held3 (fun w' => w'.cell? ⟨w.heap.size, 0, none⟩ = some (.string s) ∧ w'.cell? ⟨w.heap.size, 1, none⟩ = some (.string ⟨#[107]⟩) ∧ w'.cell? ⟨w.heap.size, 2, none⟩ = some (.string ⟨#[118]⟩) ∧ w'.cell? ⟨w.heap.size, 3, none⟩ = some (.string ⟨#[102]⟩))
    (first | exact ⟨q0, q1, q2, q3⟩ | go_keep)
    (first
      | (go_at_call 23; have hfa : Fr [] w1 (w1.drew.alloc (.cells (key0 s ⟨#[107]⟩ ⟨#[118]⟩ ⟨#[102]⟩) 38)) := ((Fr.refl [] w1).drew).alloc _; refine (key_encode hV s ⟨#[107]⟩ ⟨#[118]⟩ ⟨#[102]⟩ hs (by decide) (by decide) (by decide) _ (w1.drew.alloc (.cells (key0 s ⟨#[107]⟩ ⟨#[118]⟩ ⟨#[102]⟩) 38)) (HG.out.fr hfa (by simp)) (key_own s ⟨#[107]⟩ ⟨#[118]⟩ ⟨#[102]⟩ w1.drew)).mono ?_; rintro e w6 ⟨tx, g, cap, rfl, hf6, hcap, d9⟩; rw [HKK.out] at d9; have hfb := hfa.trans hf6; have q0 := hfb.cell c0 (by simp); have q1 := hfb.cell c1 (by simp); have q2 := hfb.cell c2 (by simp); have q3 := hfb.cell c3 (by simp); have HFB := Lib.hid (HF1.out.trans hfb); have HG6 := Lib.hid (HG.out.fr hfb (by simp)); clear hfa hf6 hfb))
  all_goals
    clear c0 c1 c2 c3 q0 q1 q2 q3
    have hcapI : (3 : Int) < (4 : Int) := by decide
    cases hkS : keyOk s.data.toList with
    | false =>
      rw [hkS] at d9
      have HKS := Lib.hid hkS; clear hkS
      go_wp2_with (first
        | (go_at_call_of 25 (Value.string s); refine (vk_any hV s w6 (by omega) HG6.out).mono ?_; rintro e w7 ⟨rfl, hf7⟩; rw [HKS.out]; have d97 := hf7.cell d9 (by simp); have HF7 := Lib.hid (HFB.out.trans hf7); have HG7 := Lib.hid (HG6.out.fr hf7 (by simp)))
        | (go_at_call_of 25 (Value.string ⟨#[97]⟩); refine (vk_any hV ⟨#[97]⟩ w7 (by decide) HG7.out).mono ?_; rintro e w8 ⟨rfl, hf8⟩; rw [ok_a]; have HF8 := Lib.hid (HF7.out.trans hf8)))
      go_ret
      exact ⟨rfl, HF8.out⟩
    | true =>
      rw [hkS] at d9
      have HKS := Lib.hid hkS
      cases hkT : keyOk t.data.toList with
      | false =>
        have HKT := Lib.hid hkT; clear hkS hkT
        go_wp2_with (first
          | (go_at_call_of 25 (Value.string s); refine (vk_any hV s w6 (by omega) HG6.out).mono ?_; rintro e w7 ⟨rfl, hf7⟩; rw [HKS.out]; have d97 := hf7.cell d9 (by simp); have HF7 := Lib.hid (HFB.out.trans hf7); have HG7 := Lib.hid (HG6.out.fr hf7 (by simp)))
          | (go_at_call_of 25 (Value.string t); refine (vk_any hV t w7 (by omega) HG7.out).mono ?_; rintro e w8 ⟨rfl, hf8⟩; rw [HKT.out]; have HF8 := Lib.hid (HF7.out.trans hf8); have HG8 := Lib.hid (HG7.out.fr hf8 (by simp)))
          | (go_at_call_of 25 (Value.string ⟨#[97]⟩); refine (vk_any hV ⟨#[97]⟩ w8 (by decide) HG8.out).mono ?_; rintro e w9 ⟨rfl, hf9⟩; rw [ok_a]; have HF9 := Lib.hid (HF8.out.trans hf9)))
        go_ret
        exact ⟨rfl, HF9.out⟩
      | true =>
        have HKT := Lib.hid hkT
        have HKST : Hid (keyOk (s ++ t).data.toList = true) := Lib.hid (by
          have e : (s ++ t).data.toList = s.data.toList ++ t.data.toList := by simp
          rw [e]; exact keyOk_append _ _ hkS hkT)
        clear hkS hkT
        go_wp2_with (first
          | (go_at_call_of 25 (Value.string s); refine (vk_any hV s w6 (by omega) HG6.out).mono ?_; rintro e w7 ⟨rfl, hf7⟩; rw [HKS.out]; have d97 := hf7.cell d9 (by simp); have HF7 := Lib.hid (HFB.out.trans hf7); have HG7 := Lib.hid (HG6.out.fr hf7 (by simp)))
          | (go_at_call_of 25 (Value.string t); refine (vk_any hV t w7 (by omega) HG7.out).mono ?_; rintro e w8 ⟨rfl, hf8⟩; rw [HKT.out]; have HF8 := Lib.hid (HF7.out.trans hf8); have HG8 := Lib.hid (HG7.out.fr hf8 (by simp)))
          | (go_at_call_of 25 (Value.string (s ++ t)); refine (vk_any hV (s ++ t) w8 (by simp; omega) HG8.out).mono ?_; rintro e w9 ⟨rfl, hf9⟩; rw [HKST.out]; have HF9 := Lib.hid (HF8.out.trans hf9); have HG9 := Lib.hid (HG8.out.fr hf9 (by simp)))
          | (go_at_call_of 25 (Value.string ⟨#[97]⟩); refine (vk_any hV ⟨#[97]⟩ w9 (by decide) HG9.out).mono ?_; rintro e w10 ⟨rfl, hf10⟩; rw [ok_a]; have HF10 := Lib.hid (HF9.out.trans hf10)))
        go_ret
        exact ⟨rfl, HF10.out⟩
theorem key_ok1 (s : ByteArray) : (!(keyOk (⟨#[109]⟩ : ByteArray).data.toList && keyOk s.data.toList && keyOk (⟨#[118]⟩ : ByteArray).data.toList && keyOk (⟨#[102]⟩ : ByteArray).data.toList)) = !keyOk s.data.toList := by
  rw [ok_m, ok_v, ok_f]; simp

set_option maxRecDepth 100000 in
set_option maxHeartbeats 8000000 in
theorem key_walk1 (hV : ValidSaid) {ea : Addr} {B0 : Nat} (s t : ByteArray) (hs : s.size ≤ 1000) (ht : t.size ≤ 1000) (w : World) (hG : Gl B0 ea w) :
    Calls Tryz.prog 10 #[.int .i64 1, .string s, .string t] w fun e w' => e = .returned (.bool true) ∧ Fr [] w w' := by
  have e1 : decide ((s.size : Int) > 2147483647) = false := decide_eq_false (by omega)
  have e2 : decide ((t.size : Int) > 2147483647) = false := decide_eq_false (by omega)
  have e3 : decide ((s.size : Int) > 1000) = false := decide_eq_false (by omega)
  have e4 : decide ((t.size : Int) > 1000) = false := decide_eq_false (by omega)
  obtain ⟨w1, hw1⟩ : ∃ x, x = w.alloc (.cells #[.string ⟨#[109]⟩, .string s, .string ⟨#[118]⟩, .string ⟨#[102]⟩] 9) := ⟨_, rfl⟩
  have hr1 : w1.heap[w.heap.size]? = some (.cells #[.string ⟨#[109]⟩, .string s, .string ⟨#[118]⟩, .string ⟨#[102]⟩] 9 (0, 0)) := by rw [hw1]; exact heap_alloc_new _ _
  have hf1 : Fr [] w w1 := by rw [hw1]; exact (Fr.refl _ _).alloc _
  have HW1 := Lib.hid hw1
  have HF1 := Lib.hid hf1
  have HR1 := Lib.hid hr1
  have HG := Lib.hid (hG.fr hf1 (by simp))
  have HKK := Lib.hid (key_ok1 s)
  clear hG hw1 hf1 hr1
  go_enter Tryz.func10, Tryz.ntmps10
  go_upto_region 7 with fail
  rw [show w.alloc (.cells #[.string ⟨#[109]⟩, .string s, .string ⟨#[118]⟩, .string ⟨#[102]⟩] 9) = w1 from HW1.out.symm]
  have c0 : w1.cell? ⟨w.heap.size, 0, none⟩ = some (.string ⟨#[109]⟩) := cell_of_row w1 w.heap.size 0 _ 9 _ HR1.out
  have c1 : w1.cell? ⟨w.heap.size, 1, none⟩ = some (.string s) := cell_of_row w1 w.heap.size 1 _ 9 _ HR1.out
  have c2 : w1.cell? ⟨w.heap.size, 2, none⟩ = some (.string ⟨#[118]⟩) := cell_of_row w1 w.heap.size 2 _ 9 _ HR1.out
  have c3 : w1.cell? ⟨w.heap.size, 3, none⟩ = some (.string ⟨#[102]⟩) := cell_of_row w1 w.heap.size 3 _ 9 _ HR1.out
  go_region_held3 (fun w' => w'.cell? ⟨w.heap.size, 0, none⟩ = some (.string ⟨#[109]⟩) ∧ w'.cell? ⟨w.heap.size, 1, none⟩ = some (.string s) ∧ w'.cell? ⟨w.heap.size, 2, none⟩ = some (.string ⟨#[118]⟩) ∧ w'.cell? ⟨w.heap.size, 3, none⟩ = some (.string ⟨#[102]⟩))
    (first | exact ⟨q0, q1, q2, q3⟩ | go_keep)
    (first
      | (go_at_call 23; have hfa : Fr [] w1 (w1.drew.alloc (.cells (key0 ⟨#[109]⟩ s ⟨#[118]⟩ ⟨#[102]⟩) 38)) := ((Fr.refl [] w1).drew).alloc _; refine (key_encode hV ⟨#[109]⟩ s ⟨#[118]⟩ ⟨#[102]⟩ (by decide) hs (by decide) (by decide) _ (w1.drew.alloc (.cells (key0 ⟨#[109]⟩ s ⟨#[118]⟩ ⟨#[102]⟩) 38)) (HG.out.fr hfa (by simp)) (key_own ⟨#[109]⟩ s ⟨#[118]⟩ ⟨#[102]⟩ w1.drew)).mono ?_; rintro e w6 ⟨tx, g, cap, rfl, hf6, hcap, d9⟩; rw [HKK.out] at d9; have hfb := hfa.trans hf6; have q0 := hfb.cell c0 (by simp); have q1 := hfb.cell c1 (by simp); have q2 := hfb.cell c2 (by simp); have q3 := hfb.cell c3 (by simp); have HFB := Lib.hid (HF1.out.trans hfb); have HG6 := Lib.hid (HG.out.fr hfb (by simp)); clear hfa hf6 hfb))
  all_goals
    clear c0 c1 c2 c3 q0 q1 q2 q3
    have hcapI : (3 : Int) < (4 : Int) := by decide
    cases hkS : keyOk s.data.toList with
    | false =>
      rw [hkS] at d9
      have HKS := Lib.hid hkS; clear hkS
      go_wp2_with (first
        | (go_at_call_of 25 (Value.string s); refine (vk_any hV s w6 (by omega) HG6.out).mono ?_; rintro e w7 ⟨rfl, hf7⟩; rw [HKS.out]; have d97 := hf7.cell d9 (by simp); have HF7 := Lib.hid (HFB.out.trans hf7); have HG7 := Lib.hid (HG6.out.fr hf7 (by simp)))
        | (go_at_call_of 25 (Value.string ⟨#[97]⟩); refine (vk_any hV ⟨#[97]⟩ w7 (by decide) HG7.out).mono ?_; rintro e w8 ⟨rfl, hf8⟩; rw [ok_a]; have HF8 := Lib.hid (HF7.out.trans hf8)))
      go_ret
      exact ⟨rfl, HF8.out⟩
    | true =>
      rw [hkS] at d9
      have HKS := Lib.hid hkS
      cases hkT : keyOk t.data.toList with
      | false =>
        have HKT := Lib.hid hkT; clear hkS hkT
        go_wp2_with (first
          | (go_at_call_of 25 (Value.string s); refine (vk_any hV s w6 (by omega) HG6.out).mono ?_; rintro e w7 ⟨rfl, hf7⟩; rw [HKS.out]; have d97 := hf7.cell d9 (by simp); have HF7 := Lib.hid (HFB.out.trans hf7); have HG7 := Lib.hid (HG6.out.fr hf7 (by simp)))
          | (go_at_call_of 25 (Value.string t); refine (vk_any hV t w7 (by omega) HG7.out).mono ?_; rintro e w8 ⟨rfl, hf8⟩; rw [HKT.out]; have HF8 := Lib.hid (HF7.out.trans hf8); have HG8 := Lib.hid (HG7.out.fr hf8 (by simp)))
          | (go_at_call_of 25 (Value.string ⟨#[97]⟩); refine (vk_any hV ⟨#[97]⟩ w8 (by decide) HG8.out).mono ?_; rintro e w9 ⟨rfl, hf9⟩; rw [ok_a]; have HF9 := Lib.hid (HF8.out.trans hf9)))
        go_ret
        exact ⟨rfl, HF9.out⟩
      | true =>
        have HKT := Lib.hid hkT
        have HKST : Hid (keyOk (s ++ t).data.toList = true) := Lib.hid (by
          have e : (s ++ t).data.toList = s.data.toList ++ t.data.toList := by simp
          rw [e]; exact keyOk_append _ _ hkS hkT)
        clear hkS hkT
        go_wp2_with (first
          | (go_at_call_of 25 (Value.string s); refine (vk_any hV s w6 (by omega) HG6.out).mono ?_; rintro e w7 ⟨rfl, hf7⟩; rw [HKS.out]; have d97 := hf7.cell d9 (by simp); have HF7 := Lib.hid (HFB.out.trans hf7); have HG7 := Lib.hid (HG6.out.fr hf7 (by simp)))
          | (go_at_call_of 25 (Value.string t); refine (vk_any hV t w7 (by omega) HG7.out).mono ?_; rintro e w8 ⟨rfl, hf8⟩; rw [HKT.out]; have HF8 := Lib.hid (HF7.out.trans hf8); have HG8 := Lib.hid (HG7.out.fr hf8 (by simp)))
          | (go_at_call_of 25 (Value.string (s ++ t)); refine (vk_any hV (s ++ t) w8 (by simp; omega) HG8.out).mono ?_; rintro e w9 ⟨rfl, hf9⟩; rw [HKST.out]; have HF9 := Lib.hid (HF8.out.trans hf9); have HG9 := Lib.hid (HG8.out.fr hf9 (by simp)))
          | (go_at_call_of 25 (Value.string ⟨#[97]⟩); refine (vk_any hV ⟨#[97]⟩ w9 (by decide) HG9.out).mono ?_; rintro e w10 ⟨rfl, hf10⟩; rw [ok_a]; have HF10 := Lib.hid (HF9.out.trans hf10)))
        go_ret
        exact ⟨rfl, HF10.out⟩
theorem key_ok2 (s : ByteArray) : (!(keyOk (⟨#[109]⟩ : ByteArray).data.toList && keyOk (⟨#[107]⟩ : ByteArray).data.toList && keyOk s.data.toList && keyOk (⟨#[102]⟩ : ByteArray).data.toList)) = !keyOk s.data.toList := by
  rw [ok_m, ok_k, ok_f]; simp

set_option maxRecDepth 100000 in
set_option maxHeartbeats 8000000 in
theorem key_walk2 (hV : ValidSaid) {ea : Addr} {B0 : Nat} (s t : ByteArray) (hs : s.size ≤ 1000) (ht : t.size ≤ 1000) (w : World) (hG : Gl B0 ea w) :
    Calls Tryz.prog 10 #[.int .i64 2, .string s, .string t] w fun e w' => e = .returned (.bool true) ∧ Fr [] w w' := by
  have e1 : decide ((s.size : Int) > 2147483647) = false := decide_eq_false (by omega)
  have e2 : decide ((t.size : Int) > 2147483647) = false := decide_eq_false (by omega)
  have e3 : decide ((s.size : Int) > 1000) = false := decide_eq_false (by omega)
  have e4 : decide ((t.size : Int) > 1000) = false := decide_eq_false (by omega)
  obtain ⟨w1, hw1⟩ : ∃ x, x = w.alloc (.cells #[.string ⟨#[109]⟩, .string ⟨#[107]⟩, .string s, .string ⟨#[102]⟩] 9) := ⟨_, rfl⟩
  have hr1 : w1.heap[w.heap.size]? = some (.cells #[.string ⟨#[109]⟩, .string ⟨#[107]⟩, .string s, .string ⟨#[102]⟩] 9 (0, 0)) := by rw [hw1]; exact heap_alloc_new _ _
  have hf1 : Fr [] w w1 := by rw [hw1]; exact (Fr.refl _ _).alloc _
  have HW1 := Lib.hid hw1
  have HF1 := Lib.hid hf1
  have HR1 := Lib.hid hr1
  have HG := Lib.hid (hG.fr hf1 (by simp))
  have HKK := Lib.hid (key_ok2 s)
  clear hG hw1 hf1 hr1
  go_enter Tryz.func10, Tryz.ntmps10
  go_upto_region 7 with fail
  rw [show w.alloc (.cells #[.string ⟨#[109]⟩, .string ⟨#[107]⟩, .string s, .string ⟨#[102]⟩] 9) = w1 from HW1.out.symm]
  have c0 : w1.cell? ⟨w.heap.size, 0, none⟩ = some (.string ⟨#[109]⟩) := cell_of_row w1 w.heap.size 0 _ 9 _ HR1.out
  have c1 : w1.cell? ⟨w.heap.size, 1, none⟩ = some (.string ⟨#[107]⟩) := cell_of_row w1 w.heap.size 1 _ 9 _ HR1.out
  have c2 : w1.cell? ⟨w.heap.size, 2, none⟩ = some (.string s) := cell_of_row w1 w.heap.size 2 _ 9 _ HR1.out
  have c3 : w1.cell? ⟨w.heap.size, 3, none⟩ = some (.string ⟨#[102]⟩) := cell_of_row w1 w.heap.size 3 _ 9 _ HR1.out
  go_region_held3 (fun w' => w'.cell? ⟨w.heap.size, 0, none⟩ = some (.string ⟨#[109]⟩) ∧ w'.cell? ⟨w.heap.size, 1, none⟩ = some (.string ⟨#[107]⟩) ∧ w'.cell? ⟨w.heap.size, 2, none⟩ = some (.string s) ∧ w'.cell? ⟨w.heap.size, 3, none⟩ = some (.string ⟨#[102]⟩))
    (first | exact ⟨q0, q1, q2, q3⟩ | go_keep)
    (first
      | (go_at_call 23; have hfa : Fr [] w1 (w1.drew.alloc (.cells (key0 ⟨#[109]⟩ ⟨#[107]⟩ s ⟨#[102]⟩) 38)) := ((Fr.refl [] w1).drew).alloc _; refine (key_encode hV ⟨#[109]⟩ ⟨#[107]⟩ s ⟨#[102]⟩ (by decide) (by decide) hs (by decide) _ (w1.drew.alloc (.cells (key0 ⟨#[109]⟩ ⟨#[107]⟩ s ⟨#[102]⟩) 38)) (HG.out.fr hfa (by simp)) (key_own ⟨#[109]⟩ ⟨#[107]⟩ s ⟨#[102]⟩ w1.drew)).mono ?_; rintro e w6 ⟨tx, g, cap, rfl, hf6, hcap, d9⟩; rw [HKK.out] at d9; have hfb := hfa.trans hf6; have q0 := hfb.cell c0 (by simp); have q1 := hfb.cell c1 (by simp); have q2 := hfb.cell c2 (by simp); have q3 := hfb.cell c3 (by simp); have HFB := Lib.hid (HF1.out.trans hfb); have HG6 := Lib.hid (HG.out.fr hfb (by simp)); clear hfa hf6 hfb))
  all_goals
    clear c0 c1 c2 c3 q0 q1 q2 q3
    have hcapI : (3 : Int) < (4 : Int) := by decide
    cases hkS : keyOk s.data.toList with
    | false =>
      rw [hkS] at d9
      have HKS := Lib.hid hkS; clear hkS
      go_wp2_with (first
        | (go_at_call_of 25 (Value.string s); refine (vk_any hV s w6 (by omega) HG6.out).mono ?_; rintro e w7 ⟨rfl, hf7⟩; rw [HKS.out]; have d97 := hf7.cell d9 (by simp); have HF7 := Lib.hid (HFB.out.trans hf7); have HG7 := Lib.hid (HG6.out.fr hf7 (by simp)))
        | (go_at_call_of 25 (Value.string ⟨#[97]⟩); refine (vk_any hV ⟨#[97]⟩ w7 (by decide) HG7.out).mono ?_; rintro e w8 ⟨rfl, hf8⟩; rw [ok_a]; have HF8 := Lib.hid (HF7.out.trans hf8)))
      go_ret
      exact ⟨rfl, HF8.out⟩
    | true =>
      rw [hkS] at d9
      have HKS := Lib.hid hkS
      cases hkT : keyOk t.data.toList with
      | false =>
        have HKT := Lib.hid hkT; clear hkS hkT
        go_wp2_with (first
          | (go_at_call_of 25 (Value.string s); refine (vk_any hV s w6 (by omega) HG6.out).mono ?_; rintro e w7 ⟨rfl, hf7⟩; rw [HKS.out]; have d97 := hf7.cell d9 (by simp); have HF7 := Lib.hid (HFB.out.trans hf7); have HG7 := Lib.hid (HG6.out.fr hf7 (by simp)))
          | (go_at_call_of 25 (Value.string t); refine (vk_any hV t w7 (by omega) HG7.out).mono ?_; rintro e w8 ⟨rfl, hf8⟩; rw [HKT.out]; have HF8 := Lib.hid (HF7.out.trans hf8); have HG8 := Lib.hid (HG7.out.fr hf8 (by simp)))
          | (go_at_call_of 25 (Value.string ⟨#[97]⟩); refine (vk_any hV ⟨#[97]⟩ w8 (by decide) HG8.out).mono ?_; rintro e w9 ⟨rfl, hf9⟩; rw [ok_a]; have HF9 := Lib.hid (HF8.out.trans hf9)))
        go_ret
        exact ⟨rfl, HF9.out⟩
      | true =>
        have HKT := Lib.hid hkT
        have HKST : Hid (keyOk (s ++ t).data.toList = true) := Lib.hid (by
          have e : (s ++ t).data.toList = s.data.toList ++ t.data.toList := by simp
          rw [e]; exact keyOk_append _ _ hkS hkT)
        clear hkS hkT
        go_wp2_with (first
          | (go_at_call_of 25 (Value.string s); refine (vk_any hV s w6 (by omega) HG6.out).mono ?_; rintro e w7 ⟨rfl, hf7⟩; rw [HKS.out]; have d97 := hf7.cell d9 (by simp); have HF7 := Lib.hid (HFB.out.trans hf7); have HG7 := Lib.hid (HG6.out.fr hf7 (by simp)))
          | (go_at_call_of 25 (Value.string t); refine (vk_any hV t w7 (by omega) HG7.out).mono ?_; rintro e w8 ⟨rfl, hf8⟩; rw [HKT.out]; have HF8 := Lib.hid (HF7.out.trans hf8); have HG8 := Lib.hid (HG7.out.fr hf8 (by simp)))
          | (go_at_call_of 25 (Value.string (s ++ t)); refine (vk_any hV (s ++ t) w8 (by simp; omega) HG8.out).mono ?_; rintro e w9 ⟨rfl, hf9⟩; rw [HKST.out]; have HF9 := Lib.hid (HF8.out.trans hf9); have HG9 := Lib.hid (HG8.out.fr hf9 (by simp)))
          | (go_at_call_of 25 (Value.string ⟨#[97]⟩); refine (vk_any hV ⟨#[97]⟩ w9 (by decide) HG9.out).mono ?_; rintro e w10 ⟨rfl, hf10⟩; rw [ok_a]; have HF10 := Lib.hid (HF9.out.trans hf10)))
        go_ret
        exact ⟨rfl, HF10.out⟩
theorem key_ok3 (s : ByteArray) : (!(keyOk (⟨#[109]⟩ : ByteArray).data.toList && keyOk (⟨#[107]⟩ : ByteArray).data.toList && keyOk (⟨#[118]⟩ : ByteArray).data.toList && keyOk s.data.toList)) = !keyOk s.data.toList := by
  rw [ok_m, ok_k, ok_v]; simp

set_option maxRecDepth 100000 in
set_option maxHeartbeats 8000000 in
theorem key_walk3 (hV : ValidSaid) {ea : Addr} {B0 : Nat} (s t : ByteArray) (hs : s.size ≤ 1000) (ht : t.size ≤ 1000) (w : World) (hG : Gl B0 ea w) :
    Calls Tryz.prog 10 #[.int .i64 3, .string s, .string t] w fun e w' => e = .returned (.bool true) ∧ Fr [] w w' := by
  have e1 : decide ((s.size : Int) > 2147483647) = false := decide_eq_false (by omega)
  have e2 : decide ((t.size : Int) > 2147483647) = false := decide_eq_false (by omega)
  have e3 : decide ((s.size : Int) > 1000) = false := decide_eq_false (by omega)
  have e4 : decide ((t.size : Int) > 1000) = false := decide_eq_false (by omega)
  obtain ⟨w1, hw1⟩ : ∃ x, x = w.alloc (.cells #[.string ⟨#[109]⟩, .string ⟨#[107]⟩, .string ⟨#[118]⟩, .string s] 9) := ⟨_, rfl⟩
  have hr1 : w1.heap[w.heap.size]? = some (.cells #[.string ⟨#[109]⟩, .string ⟨#[107]⟩, .string ⟨#[118]⟩, .string s] 9 (0, 0)) := by rw [hw1]; exact heap_alloc_new _ _
  have hf1 : Fr [] w w1 := by rw [hw1]; exact (Fr.refl _ _).alloc _
  have HW1 := Lib.hid hw1
  have HF1 := Lib.hid hf1
  have HR1 := Lib.hid hr1
  have HG := Lib.hid (hG.fr hf1 (by simp))
  have HKK := Lib.hid (key_ok3 s)
  clear hG hw1 hf1 hr1
  go_enter Tryz.func10, Tryz.ntmps10
  go_upto_region 7 with fail
  rw [show w.alloc (.cells #[.string ⟨#[109]⟩, .string ⟨#[107]⟩, .string ⟨#[118]⟩, .string s] 9) = w1 from HW1.out.symm]
  have c0 : w1.cell? ⟨w.heap.size, 0, none⟩ = some (.string ⟨#[109]⟩) := cell_of_row w1 w.heap.size 0 _ 9 _ HR1.out
  have c1 : w1.cell? ⟨w.heap.size, 1, none⟩ = some (.string ⟨#[107]⟩) := cell_of_row w1 w.heap.size 1 _ 9 _ HR1.out
  have c2 : w1.cell? ⟨w.heap.size, 2, none⟩ = some (.string ⟨#[118]⟩) := cell_of_row w1 w.heap.size 2 _ 9 _ HR1.out
  have c3 : w1.cell? ⟨w.heap.size, 3, none⟩ = some (.string s) := cell_of_row w1 w.heap.size 3 _ 9 _ HR1.out
  go_region_held3 (fun w' => w'.cell? ⟨w.heap.size, 0, none⟩ = some (.string ⟨#[109]⟩) ∧ w'.cell? ⟨w.heap.size, 1, none⟩ = some (.string ⟨#[107]⟩) ∧ w'.cell? ⟨w.heap.size, 2, none⟩ = some (.string ⟨#[118]⟩) ∧ w'.cell? ⟨w.heap.size, 3, none⟩ = some (.string s))
    (first | exact ⟨q0, q1, q2, q3⟩ | go_keep)
    (first
      | (go_at_call 23; have hfa : Fr [] w1 (w1.drew.alloc (.cells (key0 ⟨#[109]⟩ ⟨#[107]⟩ ⟨#[118]⟩ s) 38)) := ((Fr.refl [] w1).drew).alloc _; refine (key_encode hV ⟨#[109]⟩ ⟨#[107]⟩ ⟨#[118]⟩ s (by decide) (by decide) (by decide) hs _ (w1.drew.alloc (.cells (key0 ⟨#[109]⟩ ⟨#[107]⟩ ⟨#[118]⟩ s) 38)) (HG.out.fr hfa (by simp)) (key_own ⟨#[109]⟩ ⟨#[107]⟩ ⟨#[118]⟩ s w1.drew)).mono ?_; rintro e w6 ⟨tx, g, cap, rfl, hf6, hcap, d9⟩; rw [HKK.out] at d9; have hfb := hfa.trans hf6; have q0 := hfb.cell c0 (by simp); have q1 := hfb.cell c1 (by simp); have q2 := hfb.cell c2 (by simp); have q3 := hfb.cell c3 (by simp); have HFB := Lib.hid (HF1.out.trans hfb); have HG6 := Lib.hid (HG.out.fr hfb (by simp)); clear hfa hf6 hfb))
  all_goals
    clear c0 c1 c2 c3 q0 q1 q2 q3
    have hcapI : (3 : Int) < (4 : Int) := by decide
    cases hkS : keyOk s.data.toList with
    | false =>
      rw [hkS] at d9
      have HKS := Lib.hid hkS; clear hkS
      go_wp2_with (first
        | (go_at_call_of 25 (Value.string s); refine (vk_any hV s w6 (by omega) HG6.out).mono ?_; rintro e w7 ⟨rfl, hf7⟩; rw [HKS.out]; have d97 := hf7.cell d9 (by simp); have HF7 := Lib.hid (HFB.out.trans hf7); have HG7 := Lib.hid (HG6.out.fr hf7 (by simp)))
        | (go_at_call_of 25 (Value.string ⟨#[97]⟩); refine (vk_any hV ⟨#[97]⟩ w7 (by decide) HG7.out).mono ?_; rintro e w8 ⟨rfl, hf8⟩; rw [ok_a]; have HF8 := Lib.hid (HF7.out.trans hf8)))
      go_ret
      exact ⟨rfl, HF8.out⟩
    | true =>
      rw [hkS] at d9
      have HKS := Lib.hid hkS
      cases hkT : keyOk t.data.toList with
      | false =>
        have HKT := Lib.hid hkT; clear hkS hkT
        go_wp2_with (first
          | (go_at_call_of 25 (Value.string s); refine (vk_any hV s w6 (by omega) HG6.out).mono ?_; rintro e w7 ⟨rfl, hf7⟩; rw [HKS.out]; have d97 := hf7.cell d9 (by simp); have HF7 := Lib.hid (HFB.out.trans hf7); have HG7 := Lib.hid (HG6.out.fr hf7 (by simp)))
          | (go_at_call_of 25 (Value.string t); refine (vk_any hV t w7 (by omega) HG7.out).mono ?_; rintro e w8 ⟨rfl, hf8⟩; rw [HKT.out]; have HF8 := Lib.hid (HF7.out.trans hf8); have HG8 := Lib.hid (HG7.out.fr hf8 (by simp)))
          | (go_at_call_of 25 (Value.string ⟨#[97]⟩); refine (vk_any hV ⟨#[97]⟩ w8 (by decide) HG8.out).mono ?_; rintro e w9 ⟨rfl, hf9⟩; rw [ok_a]; have HF9 := Lib.hid (HF8.out.trans hf9)))
        go_ret
        exact ⟨rfl, HF9.out⟩
      | true =>
        have HKT := Lib.hid hkT
        have HKST : Hid (keyOk (s ++ t).data.toList = true) := Lib.hid (by
          have e : (s ++ t).data.toList = s.data.toList ++ t.data.toList := by simp
          rw [e]; exact keyOk_append _ _ hkS hkT)
        clear hkS hkT
        go_wp2_with (first
          | (go_at_call_of 25 (Value.string s); refine (vk_any hV s w6 (by omega) HG6.out).mono ?_; rintro e w7 ⟨rfl, hf7⟩; rw [HKS.out]; have d97 := hf7.cell d9 (by simp); have HF7 := Lib.hid (HFB.out.trans hf7); have HG7 := Lib.hid (HG6.out.fr hf7 (by simp)))
          | (go_at_call_of 25 (Value.string t); refine (vk_any hV t w7 (by omega) HG7.out).mono ?_; rintro e w8 ⟨rfl, hf8⟩; rw [HKT.out]; have HF8 := Lib.hid (HF7.out.trans hf8); have HG8 := Lib.hid (HG7.out.fr hf8 (by simp)))
          | (go_at_call_of 25 (Value.string (s ++ t)); refine (vk_any hV (s ++ t) w8 (by simp; omega) HG8.out).mono ?_; rintro e w9 ⟨rfl, hf9⟩; rw [HKST.out]; have HF9 := Lib.hid (HF8.out.trans hf9); have HG9 := Lib.hid (HG8.out.fr hf9 (by simp)))
          | (go_at_call_of 25 (Value.string ⟨#[97]⟩); refine (vk_any hV ⟨#[97]⟩ w9 (by decide) HG9.out).mono ?_; rintro e w10 ⟨rfl, hf10⟩; rw [ok_a]; have HF10 := Lib.hid (HF9.out.trans hf10)))
        go_ret
        exact ⟨rfl, HF10.out⟩

theorem key_walk (hV : ValidSaid) {ea : Addr} {B0 : Nat} (i : Int) (s t : ByteArray) (w : World) (hG : Gl B0 ea w) :
    Calls Tryz.prog 10 #[.int .i64 i, .string s, .string t] w fun e w' => e = .returned (.bool true) ∧ Fr [] w w' := by
  by_cases h : 1000 < s.size ∨ 1000 < t.size ∨ i < 0 ∨ 3 < i
  · exact key_skip i s t h w
  · have hs : s.size ≤ 1000 := by omega
    have ht : t.size ≤ 1000 := by omega
    rcases (show i = 0 ∨ i = 1 ∨ i = 2 ∨ i = 3 by omega) with rfl | rfl | rfl | rfl
    · exact key_walk0 hV s t hs ht w hG
    · exact key_walk1 hV s t hs ht w hG
    · exact key_walk2 hV s t hs ht w hG
    · exact key_walk3 hV s t hs ht w hG
end Go.Proofs.YtaaogjhaokaggaaGreatDoor
