/- PROVED HERE: laws.FnWriteMsg (func 5) answers true, of whatever text, number, double and boolean. CONDITIONS: those of its last theorem: what the package-level variables hold, and the bounds of the arguments' kinds. -/
import Derived.Test.YtpkkgngpjeoffaaGreatDoorWmP
namespace Go.Proofs.YtpkkgngpjeoffaaGreatDoor
open Go.RowKit

abbrev wmRow (s : ByteArray) (n : Int) (f : Nat) (is : Bool) : Array Value := #[.int .i64 1, .string s, .int .i64 0, .int .u64 0, .float .f64 0, .bool false, .int .i64 0, .int .i64 36, .string s, .int .i64 0, .float .f64 0, .bool false, .string ⟨#[]⟩, .int .i64 0, .bool false, .int .i64 2, .string s, .int .i64 0, .int .u64 0, .float .f64 0, .bool false, .int .i64 0, .int .i64 36, .string s, .int .i64 0, .float .f64 0, .bool false, .string ⟨#[]⟩, .int .i64 0, .bool false, .int .i64 8, .string s, .int .i64 0, .int .u64 0, .float .f64 0, .bool false, .int .i64 0, .int .i64 33, .string s, .int .i64 0, .float .f64 0, .bool false, .string ⟨#[]⟩, .int .i64 0, .bool false, .int .i64 4, .string ⟨#[]⟩, .int .i64 0, .int .u64 0, .float .f64 0, .bool is, .int .i64 0, .int .i64 35, .string ⟨#[]⟩, .int .i64 0, .float .f64 0, .bool is, .string ⟨#[]⟩, .int .i64 0, .bool false, .int .i64 5, .string ⟨#[]⟩, .int .i64 0, .int .u64 0, .float .f64 f, .bool false, .int .i64 0, .int .i64 44, .string ⟨#[]⟩, .int .i64 0, .float .f64 f, .bool false, .string ⟨#[]⟩, .int .i64 0, .bool false, .int .i64 6, .string ⟨#[]⟩, .int .i64 n, .int .u64 0, .float .f64 0, .bool false, .int .i64 0, .int .i64 58, .string ⟨#[]⟩, .int .i64 n, .float .f64 0, .bool false, .string ⟨#[]⟩, .int .i64 0, .bool false, .int .i64 0, .string ⟨#[]⟩, .int .i64 0, .int .u64 0, .float .f64 0, .bool false, .int .i64 0, .int .i64 95, .string ⟨#[]⟩, .int .i64 0, .float .f64 0, .bool false, .string ⟨#[]⟩, .int .i64 0, .bool false]
/-- What a round of the law's loop asks: the row's cells of its element. -/
theorem row15 {w : World} {g : Nat} {a0 a1 a2 a3 a4 a5 a6 a7 a8 a9 a10 a11 a12 a13 a14 : Value} (h : w.heap[g]? = some (.cells #[a0, a1, a2, a3, a4, a5, a6, a7, a8, a9, a10, a11, a12, a13, a14] 38 (0, 0))) :
    w.cell? ⟨g, 0, none⟩ = some a0 ∧ w.cell? ⟨g, 1, none⟩ = some a1 ∧ w.cell? ⟨g, 2, none⟩ = some a2 ∧ w.cell? ⟨g, 3, none⟩ = some a3 ∧ w.cell? ⟨g, 4, none⟩ = some a4 ∧ w.cell? ⟨g, 5, none⟩ = some a5 ∧ w.cell? ⟨g, 6, none⟩ = some a6 ∧ w.cell? ⟨g, 7, none⟩ = some a7 ∧ w.cell? ⟨g, 8, none⟩ = some a8 ∧ w.cell? ⟨g, 9, none⟩ = some a9 ∧ w.cell? ⟨g, 10, none⟩ = some a10 ∧ w.cell? ⟨g, 11, none⟩ = some a11 ∧ w.cell? ⟨g, 12, none⟩ = some a12 ∧ w.cell? ⟨g, 13, none⟩ = some a13 ∧ w.cell? ⟨g, 14, none⟩ = some a14 :=
  ⟨cell_of_row w g 0 _ 38 _ h, cell_of_row w g 1 _ 38 _ h, cell_of_row w g 2 _ 38 _ h, cell_of_row w g 3 _ 38 _ h, cell_of_row w g 4 _ 38 _ h, cell_of_row w g 5 _ 38 _ h, cell_of_row w g 6 _ 38 _ h, cell_of_row w g 7 _ 38 _ h, cell_of_row w g 8 _ 38 _ h, cell_of_row w g 9 _ 38 _ h, cell_of_row w g 10 _ 38 _ h, cell_of_row w g 11 _ 38 _ h, cell_of_row w g 12 _ 38 _ h, cell_of_row w g 13 _ 38 _ h, cell_of_row w g 14 _ 38 _ h⟩
theorem elem_ex {s : ByteArray} (hs : s.size ≤ 1000000) {n : Int} (h0 : -9223372036854775808 ≤ n) (h1 : n ≤ 9223372036854775807) {f : Nat} (hf : f < 18446744073709551616) {is : Bool} {w : World} {R : Nat} (k : Nat) (hk : k < 7) (h : w.heap[R]? = some (.cells (wmRow s n f is) 38 (0, 0))) :
    ∃ (a0 : Int) (a1 : ByteArray) (a2 : Int) (a4 : Nat) (a5 : Bool) (m0 : Int) (m1 : ByteArray) (m2 : Int) (m3 : Nat) (m4 : Bool), w.cell? ⟨R, k * 15, none⟩ = some (.int .i64 a0) ∧ w.cell? ⟨R, k * 15 + 1, none⟩ = some (.string a1) ∧ w.cell? ⟨R, k * 15 + 2, none⟩ = some (.int .i64 a2) ∧ w.cell? ⟨R, k * 15 + 3, none⟩ = some (.int .u64 0) ∧ w.cell? ⟨R, k * 15 + 4, none⟩ = some (.float .f64 a4) ∧ w.cell? ⟨R, k * 15 + 5, none⟩ = some (.bool a5) ∧ w.cell? ⟨R, k * 15 + 6, none⟩ = some (.int .i64 0) ∧ w.cell? ⟨R, k * 15 + 7, none⟩ = some (.int .i64 m0) ∧ w.cell? ⟨R, k * 15 + 8, none⟩ = some (.string m1) ∧ w.cell? ⟨R, k * 15 + 9, none⟩ = some (.int .i64 m2) ∧ w.cell? ⟨R, k * 15 + 10, none⟩ = some (.float .f64 m3) ∧ w.cell? ⟨R, k * 15 + 11, none⟩ = some (.bool m4) ∧ w.cell? ⟨R, k * 15 + 12, none⟩ = some (.string { data := #[] }) ∧ w.cell? ⟨R, k * 15 + 13, none⟩ = some (.int .i64 0) ∧ w.cell? ⟨R, k * 15 + 14, none⟩ = some (.bool false) ∧ Pair (plV a0 a1 a2 a4 a5) (mgV m0 m1 m2 m3 m4) := by
  have hc : ∀ j, w.cell? ⟨R, j, none⟩ = (wmRow s n f is)[j]? := fun j => cell_of_row w R j _ 38 _ h
  have hcase : k = 0 ∨ k = 1 ∨ k = 2 ∨ k = 3 ∨ k = 4 ∨ k = 5 ∨ k = 6 := by omega
  rcases hcase with rfl | rfl | rfl | rfl | rfl | rfl | rfl
  · exact ⟨_, _, _, _, _, _, _, _, _, _, hc 0, hc 1, hc 2, hc 3, hc 4, hc 5, hc 6, hc 7, hc 8, hc 9, hc 10, hc 11, hc 12, hc 13, hc 14, pair_str s hs⟩
  · exact ⟨_, _, _, _, _, _, _, _, _, _, hc 15, hc 16, hc 17, hc 18, hc 19, hc 20, hc 21, hc 22, hc 23, hc 24, hc 25, hc 26, hc 27, hc 28, hc 29, pair_bytes s hs⟩
  · exact ⟨_, _, _, _, _, _, _, _, _, _, hc 30, hc 31, hc 32, hc 33, hc 34, hc 35, hc 36, hc 37, hc 38, hc 39, hc 40, hc 41, hc 42, hc 43, hc 44, pair_err s hs⟩
  · exact ⟨_, _, _, _, _, _, _, _, _, _, hc 45, hc 46, hc 47, hc 48, hc 49, hc 50, hc 51, hc 52, hc 53, hc 54, hc 55, hc 56, hc 57, hc 58, hc 59, pair_bool is⟩
  · exact ⟨_, _, _, _, _, _, _, _, _, _, hc 60, hc 61, hc 62, hc 63, hc 64, hc 65, hc 66, hc 67, hc 68, hc 69, hc 70, hc 71, hc 72, hc 73, hc 74, pair_float f hf⟩
  · exact ⟨_, _, _, _, _, _, _, _, _, _, hc 75, hc 76, hc 77, hc 78, hc 79, hc 80, hc 81, hc 82, hc 83, hc 84, hc 85, hc 86, hc 87, hc 88, hc 89, pair_int n h0 h1⟩
  · exact ⟨_, _, _, _, _, _, _, _, _, _, hc 90, hc 91, hc 92, hc 93, hc 94, hc 95, hc 96, hc 97, hc 98, hc 99, hc 100, hc 101, hc 102, hc 103, hc 104, pair_nil⟩
set_option maxRecDepth 100000 in
set_option maxHeartbeats 8000000 in
theorem wm_law {ea : Addr} (s : ByteArray) (hs : s.size ≤ 2000) (n : Int) (h0 : -9223372036854775808 ≤ n) (h1 : n ≤ 9223372036854775807) (f : Nat) (hf : f < 18446744073709551616) (is : Bool) (w : World) (hG : Gp w.heap.size ea w) :
    Calls Tryz.prog 5 #[.string s, .int .i64 n, .float .f64 f, .bool is] w fun e w' => e = .returned (.bool true) ∧ Fr [] w w' := by
  have d1 : decide ((2147483647 : Int) < (s.size : Int)) = false := decide_eq_false (by omega)
  have d2 : decide ((2000 : Int) < (s.size : Int)) = false := decide_eq_false (by omega)
  have e1 : ¬ ((2147483647 : Int) < (s.size : Int)) := by omega
  have e2 : ¬ ((2000 : Int) < (s.size : Int)) := by omega
  have HG := Lib.hid hG
  have HS : Hid (s.size ≤ 1000000) := Lib.hid (by omega)
  have HN := Lib.hid (And.intro h0 h1)
  have HFF := Lib.hid hf
  have hsf : ∀ (a : Addr) (k : FloatKind) (b : Nat) (m : Mode) (w : World), (store a (.float k b) m).run Tryz.prog w = stored Tryz.prog w a (.float k b) m := fun a k b m w => run_store Tryz.prog w a _ m rfl
  clear hs h0 h1 hf hG
  go_enter Tryz.func5, Tryz.ntmps5
  go_upto_region 5 with fail
  go_cut [54, 55, 56] from 15 to 56 (fun x54 x55 x56 wx => x54 = .slice (some ⟨w.heap.size, 0, none⟩) 7 7 ∧ x55 = .int .i64 7 ∧ x56 = .int .i64 0 ∧ Hid (wx.heap[w.heap.size]? = some (.cells (wmRow s n f is) 38 (0, 0)) ∧ Fr [] w wx))
  case first =>
    go_wp2_with fail
    go_meet
    exact ⟨rfl, rfl, rfl, Lib.hid ⟨heap_alloc_new w _, (Fr.refl [] w).alloc _⟩⟩
  obtain ⟨rfl, rfl, rfl, HR⟩ := hcut
  obtain ⟨R, hR⟩ : ∃ R, R = w.heap.size := ⟨_, rfl⟩
  rw [← hR] at HR ⊢
  clear hR
  go_wp2_with fail
  go_loopw [56] (fun i wr => ∃ k : Nat, k ≤ 7 ∧ i = .int .i64 k ∧ Hid (wr.heap[R]? = some (.cells (wmRow s n f is) 38 (0, 0)) ∧ Fr [] w wr)) (fun i _ => 7 - (intOf i).toNat)
  case atStart => exact ⟨0, by omega, rfl, HR⟩
  case round =>
    obtain ⟨k, hk, rfl, HK⟩ := hrel
    by_cases hlt : k < 7
    · obtain ⟨a0, a1, a2, a4, a5, m0, m1, m2, m3, m4, c0, c1, c2, c3, c4, c5, c6, c7, c8, c9, c10, c11, c12, c13, c14, hP⟩ := elem_ex HS.out HN.out.1 HN.out.2 HFF.out k hlt HK.out.1
      obtain ⟨S, hS, hW, hM⟩ := hP
      have HW := Lib.hid hW
      have HMM := Lib.hid hM
      have i1 : ¬ (S.size : Int) < 3 := by omega
      have i2 : decide ((S.size : Int) < 3) = false := decide_eq_false (by omega)
      have k7 : (k : Int) < 7 := by omega
      clear hS hW hM HR
      go_upto_region 8 with fail
      obtain ⟨w2, hw2⟩ : ∃ x, x = wr.alloc (.cells #[.int .i64 a0, .string a1, .int .i64 a2, .int .u64 0, .float .f64 a4, .bool a5, .int .i64 0, .int .i64 m0, .string m1, .int .i64 m2, .float .f64 m3, .bool m4, .string { data := #[] }, .int .i64 0, .bool false] 38) := ⟨_, rfl⟩
      rw [← hw2]
      have hf2 : Fr [] wr w2 := by rw [hw2]; exact (Fr.refl [] wr).alloc _
      have hr2 : w2.heap[wr.heap.size]? = some (.cells #[.int .i64 a0, .string a1, .int .i64 a2, .int .u64 0, .float .f64 a4, .bool a5, .int .i64 0, .int .i64 m0, .string m1, .int .i64 m2, .float .f64 m3, .bool m4, .string { data := #[] }, .int .i64 0, .bool false] 38 (0, 0)) := by rw [hw2]; exact heap_alloc_new wr _
      have HF2 := Lib.hid hf2
      have HR2 := Lib.hid hr2
      obtain ⟨g, hg⟩ : ∃ g, g = wr.heap.size := ⟨_, rfl⟩
      rw [← hg] at HR2 ⊢
      clear hw2 hf2 hr2 hg c0 c1 c2 c3 c4 c5 c6 c7 c8 c9 c10 c11 c12 c13 c14
      obtain ⟨c0, c1, c2, c3, c4, c5, c6, c7, c8, c9, c10, c11, c12, c13, c14⟩ := row15 HR2.out
      have HG2 := Lib.hid ((HG.out.fr (HK.out.2.trans HF2.out) (fun _ h => by cases h)).base)
      go_upto_region 9 with (go_at_call 10; refine (HW.out ea w2 HG2.out).mono ?_; rintro e w3 ⟨rfl, hf3⟩; have HF3 := Lib.hid hf3; clear hf3)
      have HR3 := Lib.hid (HF3.out.blk HR2.out List.not_mem_nil)
      clear c0 c1 c2 c3 c4 c5 c6 c7 c8 c9 c10 c11 c12 c13 c14
      obtain ⟨c0, c1, c2, c3, c4, c5, c6, c7, c8, c9, c10, c11, c12, c13, c14⟩ := row15 HR3.out
      have HG3 := Lib.hid ((HG.out.fr ((HK.out.2.trans HF2.out).trans HF3.out) (fun _ h => by cases h)).base)
      go_wp2_with (go_at_call 12; refine (HMM.out ea w3 HG3.out).mono ?_; rintro e w4 ⟨rfl, hf4⟩; have HF4 := Lib.hid hf4; clear hf4)
      go_roundw
      case rel => exact ⟨k + 1, by omega, by go_num, Lib.hid ⟨(HF2.out.trans (HF3.out.trans HF4.out)).blk HK.out.1 List.not_mem_nil, HK.out.2.trans (HF2.out.trans (HF3.out.trans HF4.out))⟩⟩
      case measure => simp [intOf]; omega
    · have hk7 : k = 7 := by omega
      subst hk7
      go_wp2_with fail
      go_ret
      exact ⟨rfl, HK.out.2⟩
set_option maxRecDepth 100000 in
theorem wm_walk {ea : Addr} (s : ByteArray) (n : Int) (h0 : -9223372036854775808 ≤ n) (h1 : n ≤ 9223372036854775807) (f : Nat) (hf : f < 18446744073709551616) (is : Bool) (w : World) (hG : Gp w.heap.size ea w) :
    Calls Tryz.prog 5 #[.string s, .int .i64 n, .float .f64 f, .bool is] w fun e w' => e = .returned (.bool true) ∧ Fr [] w w' := by
  by_cases hs : s.size ≤ 2000
  · exact wm_law s hs n h0 h1 f hf is w hG
  · have d2 : decide ((2000 : Int) < (s.size : Int)) = true := decide_eq_true (by omega)
    have e2 : (2000 : Int) < (s.size : Int) := by omega
    clear hG hs h0 h1 hf
    go_enter Tryz.func5, Tryz.ntmps5
    go_wp2_with fail
    all_goals
      go_ret
      exact ⟨rfl, Fr.refl _ _⟩
end Go.Proofs.YtpkkgngpjeoffaaGreatDoor
