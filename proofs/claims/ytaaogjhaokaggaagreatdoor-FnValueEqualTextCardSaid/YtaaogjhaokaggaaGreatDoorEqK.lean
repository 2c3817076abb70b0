import Derived.Test.YtaaogjhaokaggaaGreatDoorEqX
namespace Go.Proofs.YtaaogjhaokaggaaGreatDoor
open Go.RowKit

set_option maxRecDepth 100000 in
set_option maxHeartbeats 4000000 in
theorem lKinds_two (d d' : VD) (g : Nat) (w : World) (hg : w.heap[g]? = some (.cells (d.cells ++ d'.cells) 25 (0, 0))) :
    Calls Tryz.prog 15 #[.slice (some ⟨g, 0, none⟩) 2 2] w fun e w' => e = .returned (.bool (d.kinds && d'.kinds)) ∧ Fr [] w w' := by
  obtain ⟨k, s, n, u, f, x⟩ := d
  obtain ⟨k', s', n', u', f', x'⟩ := d'
  simp only [VD.cells, VD.kinds] at *
  have hg2 : w.heap[g]? = some (.cells #[.int .i64 k, .string s, .int .i64 n, .int .u64 u, .float .f64 f, .bool x, .int .i64 k', .string s', .int .i64 n', .int .u64 u', .float .f64 f', .bool x'] 25 (0, 0)) := hg
  have d0 : w.cell? ⟨g, 0, none⟩ = _ := cell_of_row w g 0 _ 25 _ hg2
  have d1 : w.cell? ⟨g, 1, none⟩ = _ := cell_of_row w g 1 _ 25 _ hg2
  have d2 : w.cell? ⟨g, 2, none⟩ = _ := cell_of_row w g 2 _ 25 _ hg2
  have d3 : w.cell? ⟨g, 3, none⟩ = _ := cell_of_row w g 3 _ 25 _ hg2
  have d4 : w.cell? ⟨g, 4, none⟩ = _ := cell_of_row w g 4 _ 25 _ hg2
  have d5 : w.cell? ⟨g, 5, none⟩ = _ := cell_of_row w g 5 _ 25 _ hg2
  have d6 : w.cell? ⟨g, 6, none⟩ = _ := cell_of_row w g 6 _ 25 _ hg2
  have d7 : w.cell? ⟨g, 7, none⟩ = _ := cell_of_row w g 7 _ 25 _ hg2
  have d8 : w.cell? ⟨g, 8, none⟩ = _ := cell_of_row w g 8 _ 25 _ hg2
  have d9 : w.cell? ⟨g, 9, none⟩ = _ := cell_of_row w g 9 _ 25 _ hg2
  have d10 : w.cell? ⟨g, 10, none⟩ = _ := cell_of_row w g 10 _ 25 _ hg2
  have d11 : w.cell? ⟨g, 11, none⟩ = _ := cell_of_row w g 11 _ 25 _ hg2
  clear hg hg2
  have hsf : ∀ (a : Addr) (k : FloatKind) (b : Nat) (m : Mode) (w : World), (store a (.float k b) m).run Tryz.prog w = stored Tryz.prog w a (.float k b) m := fun a k b m w => run_store Tryz.prog w a _ m rfl
  by_cases h0 : k < 0
  · rw [decide_eq_false (show ¬ (0 ≤ k ∧ k ≤ 255 ∧ s.size ≤ 800) by rintro ⟨a, b, c⟩; omega), Bool.false_and]
    go_enter Tryz.func15, Tryz.ntmps15
    go_wp2_with fail
    refine wp_loop_rounds 3 ?_
    rw [rounds_succ]
    go_wp2_with fail
    go_ret
    exact ⟨rfl, (Fr.refl _ _).alloc _⟩
  by_cases h1 : 255 < k
  · rw [decide_eq_false (show ¬ (0 ≤ k ∧ k ≤ 255 ∧ s.size ≤ 800) by rintro ⟨a, b, c⟩; omega), Bool.false_and]
    have h0p : 0 ≤ k := by omega
    clear h0
    go_enter Tryz.func15, Tryz.ntmps15
    go_wp2_with fail
    refine wp_loop_rounds 3 ?_
    rw [rounds_succ]
    go_wp2_with fail
    go_ret
    exact ⟨rfl, (Fr.refl _ _).alloc _⟩
  have h0p : 0 ≤ k := by omega
  have h1p : k ≤ 255 := by omega
  clear h0 h1
  by_cases h2 : s.size ≤ 800
  case neg =>
    have hi : (800 : Int) < (s.size : Int) := by omega
    rw [decide_eq_false (show ¬ (0 ≤ k ∧ k ≤ 255 ∧ s.size ≤ 800) by rintro ⟨a, b, c⟩; omega), Bool.false_and]
    go_enter Tryz.func15, Tryz.ntmps15
    go_wp2_with fail
    refine wp_loop_rounds 3 ?_
    rw [rounds_succ]
    go_wp2_with fail
    go_ret
    exact ⟨rfl, (Fr.refl _ _).alloc _⟩
  have hi : (s.size : Int) ≤ 800 := by omega
  rw [decide_eq_true (show 0 ≤ k ∧ k ≤ 255 ∧ s.size ≤ 800 from ⟨h0p, h1p, h2⟩), Bool.true_and]
  clear h2
  by_cases h0' : k' < 0
  · rw [decide_eq_false (show ¬ (0 ≤ k' ∧ k' ≤ 255 ∧ s'.size ≤ 800) by rintro ⟨a, b, c⟩; omega)]
    go_enter Tryz.func15, Tryz.ntmps15
    go_wp2_with fail
    refine wp_loop_rounds 3 ?_
    rw [rounds_succ]
    go_wp2_with fail
    obtain ⟨w1, hw1⟩ : ∃ w1, w1 = w.alloc (.cells #[.int .i64 k, .string s, .int .i64 n, .int .u64 u, .float .f64 f, .bool x] 25) := ⟨_, rfl⟩
    rw [← hw1]
    have hf1 : Fr [] w w1 := by rw [hw1]; exact (Fr.refl [] w).alloc _
    have e6 : w1.cell? ⟨g, 6, none⟩ = _ := hf1.cell d6 List.not_mem_nil
    have e7 : w1.cell? ⟨g, 7, none⟩ = _ := hf1.cell d7 List.not_mem_nil
    have e8 : w1.cell? ⟨g, 8, none⟩ = _ := hf1.cell d8 List.not_mem_nil
    have e9 : w1.cell? ⟨g, 9, none⟩ = _ := hf1.cell d9 List.not_mem_nil
    have e10 : w1.cell? ⟨g, 10, none⟩ = _ := hf1.cell d10 List.not_mem_nil
    have e11 : w1.cell? ⟨g, 11, none⟩ = _ := hf1.cell d11 List.not_mem_nil
    have HF1 := Lib.hid hf1
    clear hf1 hw1 d0 d1 d2 d3 d4 d5 d6 d7 d8 d9 d10 d11
    rw [rounds_succ]
    go_wp2_with fail
    go_ret
    exact ⟨rfl, HF1.out.alloc _⟩
  by_cases h1' : 255 < k'
  · rw [decide_eq_false (show ¬ (0 ≤ k' ∧ k' ≤ 255 ∧ s'.size ≤ 800) by rintro ⟨a, b, c⟩; omega)]
    have h0p' : 0 ≤ k' := by omega
    clear h0'
    go_enter Tryz.func15, Tryz.ntmps15
    go_wp2_with fail
    refine wp_loop_rounds 3 ?_
    rw [rounds_succ]
    go_wp2_with fail
    obtain ⟨w1, hw1⟩ : ∃ w1, w1 = w.alloc (.cells #[.int .i64 k, .string s, .int .i64 n, .int .u64 u, .float .f64 f, .bool x] 25) := ⟨_, rfl⟩
    rw [← hw1]
    have hf1 : Fr [] w w1 := by rw [hw1]; exact (Fr.refl [] w).alloc _
    have e6 : w1.cell? ⟨g, 6, none⟩ = _ := hf1.cell d6 List.not_mem_nil
    have e7 : w1.cell? ⟨g, 7, none⟩ = _ := hf1.cell d7 List.not_mem_nil
    have e8 : w1.cell? ⟨g, 8, none⟩ = _ := hf1.cell d8 List.not_mem_nil
    have e9 : w1.cell? ⟨g, 9, none⟩ = _ := hf1.cell d9 List.not_mem_nil
    have e10 : w1.cell? ⟨g, 10, none⟩ = _ := hf1.cell d10 List.not_mem_nil
    have e11 : w1.cell? ⟨g, 11, none⟩ = _ := hf1.cell d11 List.not_mem_nil
    have HF1 := Lib.hid hf1
    clear hf1 hw1 d0 d1 d2 d3 d4 d5 d6 d7 d8 d9 d10 d11
    rw [rounds_succ]
    go_wp2_with fail
    go_ret
    exact ⟨rfl, HF1.out.alloc _⟩
  have h0p' : 0 ≤ k' := by omega
  have h1p' : k' ≤ 255 := by omega
  clear h0' h1'
  by_cases h2' : s'.size ≤ 800
  case neg =>
    have hi' : (800 : Int) < (s'.size : Int) := by omega
    rw [decide_eq_false (show ¬ (0 ≤ k' ∧ k' ≤ 255 ∧ s'.size ≤ 800) by rintro ⟨a, b, c⟩; omega)]
    go_enter Tryz.func15, Tryz.ntmps15
    go_wp2_with fail
    refine wp_loop_rounds 3 ?_
    rw [rounds_succ]
    go_wp2_with fail
    obtain ⟨w1, hw1⟩ : ∃ w1, w1 = w.alloc (.cells #[.int .i64 k, .string s, .int .i64 n, .int .u64 u, .float .f64 f, .bool x] 25) := ⟨_, rfl⟩
    rw [← hw1]
    have hf1 : Fr [] w w1 := by rw [hw1]; exact (Fr.refl [] w).alloc _
    have e6 : w1.cell? ⟨g, 6, none⟩ = _ := hf1.cell d6 List.not_mem_nil
    have e7 : w1.cell? ⟨g, 7, none⟩ = _ := hf1.cell d7 List.not_mem_nil
    have e8 : w1.cell? ⟨g, 8, none⟩ = _ := hf1.cell d8 List.not_mem_nil
    have e9 : w1.cell? ⟨g, 9, none⟩ = _ := hf1.cell d9 List.not_mem_nil
    have e10 : w1.cell? ⟨g, 10, none⟩ = _ := hf1.cell d10 List.not_mem_nil
    have e11 : w1.cell? ⟨g, 11, none⟩ = _ := hf1.cell d11 List.not_mem_nil
    have HF1 := Lib.hid hf1
    clear hf1 hw1 d0 d1 d2 d3 d4 d5 d6 d7 d8 d9 d10 d11
    rw [rounds_succ]
    go_wp2_with fail
    go_ret
    exact ⟨rfl, HF1.out.alloc _⟩
  have hi' : (s'.size : Int) ≤ 800 := by omega
  rw [decide_eq_true (show 0 ≤ k' ∧ k' ≤ 255 ∧ s'.size ≤ 800 from ⟨h0p', h1p', h2'⟩)]
  go_enter Tryz.func15, Tryz.ntmps15
  go_wp2_with fail
  refine wp_loop_rounds 3 ?_
  rw [rounds_succ]
  go_wp2_with fail
  obtain ⟨w1, hw1⟩ : ∃ w1, w1 = w.alloc (.cells #[.int .i64 k, .string s, .int .i64 n, .int .u64 u, .float .f64 f, .bool x] 25) := ⟨_, rfl⟩
  rw [← hw1]
  have hf1 : Fr [] w w1 := by rw [hw1]; exact (Fr.refl [] w).alloc _
  have e6 : w1.cell? ⟨g, 6, none⟩ = _ := hf1.cell d6 List.not_mem_nil
  have e7 : w1.cell? ⟨g, 7, none⟩ = _ := hf1.cell d7 List.not_mem_nil
  have e8 : w1.cell? ⟨g, 8, none⟩ = _ := hf1.cell d8 List.not_mem_nil
  have e9 : w1.cell? ⟨g, 9, none⟩ = _ := hf1.cell d9 List.not_mem_nil
  have e10 : w1.cell? ⟨g, 10, none⟩ = _ := hf1.cell d10 List.not_mem_nil
  have e11 : w1.cell? ⟨g, 11, none⟩ = _ := hf1.cell d11 List.not_mem_nil
  have HF1 := Lib.hid hf1
  clear hf1 hw1 d0 d1 d2 d3 d4 d5 d6 d7 d8 d9 d10 d11
  rw [rounds_succ]
  go_wp2_with fail
  rw [rounds_succ]
  go_wp2_with fail
  go_ret
  exact ⟨rfl, HF1.out.alloc _⟩
end Go.Proofs.YtaaogjhaokaggaaGreatDoor
