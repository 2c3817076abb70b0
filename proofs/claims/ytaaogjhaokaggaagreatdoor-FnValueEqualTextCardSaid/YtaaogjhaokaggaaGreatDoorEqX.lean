import Derived.Test.YtaaogjhaokaggaaGreatDoorEqW
import Derived.Recover
import Derived.Defers
import Derived.Deep.RegionLaw
import Derived.WideLaws
namespace Go.Proofs.YtaaogjhaokaggaaGreatDoor
open Go.RowKit

theorem recover_idle34 (a b : Addr) (w : World) :
    CallsD Tryz.prog 34 #[.pointer (some a), .pointer (some b)] .returning w fun e u' w' => e = .returned (.tuple #[]) ∧ u' = .returning ∧ w' = w := by
  refine callsD_of_wpS Tryz.func34 rfl fun c₀ cs hu => ?_
  apply wpS_seq
  apply wpS_region
  simp [wpOpsS, go_sem, recoverD, hu, Tryz.ntmps34, Exit.thenS]
  refine wpS_cond (t := false) (by simp [Act.eval, Array.replicate]) ?_
  simp only [Bool.false_eq_true, if_false]
  refine wpS_of_wp (wp_skip ?_)
  cases c₀
  simp_all [bodyPostS, results, Tryz.results34]
set_option maxRecDepth 100000 in
set_option maxHeartbeats 4000000 in
theorem implEqual_any (hV : ValidSaid) {ea : Addr} {B0 : Nat} (d1 d2 : VD) (hd1 : d1.Ok) (hd2 : d2.Ok) (x y : Val) (hx : d1.made = some x) (hy : d2.made = some y) (fx : x.fin) (fy : y.fin) (w : World) (hG : Gv B0 ea w) :
    Calls Tryz.prog 17 #[.agg d1.cells, .agg d2.cells] w fun e w' => e = .returned (.tuple #[.bool (veq x y), .bool true]) ∧ Fr [] w w' := by
  have hval1 := fun w (hG : Gv B0 ea w) => value_any hV d1 hd1 (fun _ => floatValue_any) w hG
  have hval2 := fun w (hG : Gv B0 ea w) => value_any hV d2 hd2 (fun _ => floatValue_any) w hG
  rw [hx] at hval1
  rw [hy] at hval2
  have HVAL1 := Lib.hid hval1
  have HVAL2 := Lib.hid hval2
  have HEQ := Lib.hid (fun w v1 v2 hx hy => equal_any v1 v2 x y fx fy w hx hy)
  clear hval1 hval2 hx hy hd1 hd2 fx fy
  have hmf : ∀ (fn : Fn) (first cap : Array Value) (w : World), (Instr.makeFunc fn first cap).run Tryz.prog w = .ok (.func fn first cap) w := fun _ _ _ _ => rfl
  have hsf : ∀ (a : Addr) (k : FloatKind) (b : Nat) (m : Mode) (w : World), (store a (.float k b) m).run Tryz.prog w = stored Tryz.prog w a (.float k b) m := fun a k b m w => run_store Tryz.prog w a _ m rfl
  obtain ⟨k, s, n, u, f, xx⟩ := d1
  obtain ⟨k', s', n', u', f', xx'⟩ := d2
  simp only [VD.cells] at *
  obtain ⟨w3, hw3⟩ : ∃ w3, w3 = (((w.alloc (.cells #[.int .i64 k, .string s, .int .i64 n, .int .u64 u, .float .f64 f, .bool xx] 25)).alloc (.cells #[.int .i64 k', .string s', .int .i64 n', .int .u64 u', .float .f64 f', .bool xx'] 25)).alloc (.cells #[.bool false] 4)).alloc (.cells #[.bool false] 4) := ⟨_, rfl⟩
  have hf3 : Fr [] w w3 := by rw [hw3]; exact ((((Fr.refl [] w).alloc _).alloc _).alloc _).alloc _
  have hs3 : w3.heap.size = w.heap.size + 4 := by rw [hw3]; simp
  have hb0 : w3.heap[w.heap.size]? = some (.cells #[.int .i64 k, .string s, .int .i64 n, .int .u64 u, .float .f64 f, .bool xx] 25 (0, 0)) := by
    rw [hw3]
    exact ((((Fr.refl [] _).alloc _).alloc _).alloc _).blk (heap_alloc_new w _) List.not_mem_nil
  have hb1 : w3.heap[w.heap.size + 1]? = some (.cells #[.int .i64 k', .string s', .int .i64 n', .int .u64 u', .float .f64 f', .bool xx'] 25 (0, 0)) := by
    rw [hw3]
    have := (((Fr.refl [] _).alloc (.cells #[.bool false] 4)).alloc (.cells #[.bool false] 4)).blk (heap_alloc_new (w.alloc (.cells #[.int .i64 k, .string s, .int .i64 n, .int .u64 u, .float .f64 f, .bool xx] 25)) (.cells #[.int .i64 k', .string s', .int .i64 n', .int .u64 u', .float .f64 f', .bool xx'] 25)) List.not_mem_nil
    simpa using this
  have hb2 : w3.heap[w.heap.size + 2]? = some (.cells #[.bool false] 4 (0, 0)) := by
    rw [hw3]
    have := ((Fr.refl [] _).alloc (.cells #[.bool false] 4)).blk (heap_alloc_new ((w.alloc (.cells #[.int .i64 k, .string s, .int .i64 n, .int .u64 u, .float .f64 f, .bool xx] 25)).alloc (.cells #[.int .i64 k', .string s', .int .i64 n', .int .u64 u', .float .f64 f', .bool xx'] 25)) (.cells #[.bool false] 4)) List.not_mem_nil
    simpa using this
  have hb3 : w3.heap[w.heap.size + 3]? = some (.cells #[.bool false] 4 (0, 0)) := by
    rw [hw3]
    have := heap_alloc_new (((w.alloc (.cells #[.int .i64 k, .string s, .int .i64 n, .int .u64 u, .float .f64 f, .bool xx] 25)).alloc (.cells #[.int .i64 k', .string s', .int .i64 n', .int .u64 u', .float .f64 f', .bool xx'] 25)).alloc (.cells #[.bool false] 4)) (.cells #[.bool false] 4)
    simpa using this
  have HB0 := Lib.hid hb0
  have HB1 := Lib.hid hb1
  have HB2 := Lib.hid hb2
  have HB3 := Lib.hid hb3
  have HF3 := Lib.hid hf3
  have HG3 := Lib.hid (hG.fr hf3 (fun _ h => by cases h))
  have HS3 := Lib.hid hs3
  have HW3 := Lib.hid hw3
  clear hb0 hb1 hb2 hb3 hf3 hs3 hw3 hG
  go_enter_defers Tryz.func17, Tryz.ntmps17
  go_upto_region 2 with fail
  rw [← HW3.out]
  have d0 : w3.cell? ⟨w.heap.size, 0, none⟩ = _ := cell_of_row w3 w.heap.size 0 _ 25 _ HB0.out
  have d1 : w3.cell? ⟨w.heap.size, 1, none⟩ = _ := cell_of_row w3 w.heap.size 1 _ 25 _ HB0.out
  have d2 : w3.cell? ⟨w.heap.size, 2, none⟩ = _ := cell_of_row w3 w.heap.size 2 _ 25 _ HB0.out
  have d3 : w3.cell? ⟨w.heap.size, 3, none⟩ = _ := cell_of_row w3 w.heap.size 3 _ 25 _ HB0.out
  have d4 : w3.cell? ⟨w.heap.size, 4, none⟩ = _ := cell_of_row w3 w.heap.size 4 _ 25 _ HB0.out
  have d5 : w3.cell? ⟨w.heap.size, 5, none⟩ = _ := cell_of_row w3 w.heap.size 5 _ 25 _ HB0.out
  go_upto_region 3 with (go_at_call 35; refine (HVAL1.out _ HG3.out).mono ?_; rintro e w4 ⟨hf4, v, rfl, hlv, hlb⟩; obtain ⟨n1, a1, c1, e1, k1, rfl⟩ := lv_shape0 hlv; have HF4 := Lib.hid hf4; have HLV : Hid (LV w4 (.agg #[.int .u64 n1, .slice a1 c1 e1, .int .u8 k1]) x) := Lib.hid hlv; clear hf4 hlv hlb)
  obtain ⟨w5, hw5⟩ : ∃ x, x = w4.alloc (.cells #[.int .u64 n1, .slice a1 c1 e1, .int .u8 k1] 69) := ⟨_, rfl⟩
  rw [← hw5]
  have hf5 : Fr [] w4 w5 := by rw [hw5]; exact (Fr.refl [] w4).alloc _
  have HR5 : Hid (w5.heap[w4.heap.size]? = some (.cells #[.int .u64 n1, .slice a1 c1 e1, .int .u8 k1] 69 (0, 0))) := Lib.hid (by rw [hw5]; exact heap_alloc_new _ _)
  have HF35 := Lib.hid (HF4.out.trans hf5)
  have HLV5 : Hid (LV w5 (.agg #[.int .u64 n1, .slice a1 c1 e1, .int .u8 k1]) x) := Lib.hid (LV.frS hf5 HLV.out (fun _ _ => List.not_mem_nil))
  have HZ4 := Lib.hid (show w4.heap.size < w5.heap.size by rw [hw5]; simp)
  have HD5 := Lib.hid (HF35.out.blk HB1.out List.not_mem_nil)
  clear hf5 hw5 d0 d1 d2 d3 d4 d5
  have d0 : w5.cell? ⟨w.heap.size + 1, 0, none⟩ = _ := cell_of_row w5 (w.heap.size + 1) 0 _ 25 _ HD5.out
  have d1 : w5.cell? ⟨w.heap.size + 1, 1, none⟩ = _ := cell_of_row w5 (w.heap.size + 1) 1 _ 25 _ HD5.out
  have d2 : w5.cell? ⟨w.heap.size + 1, 2, none⟩ = _ := cell_of_row w5 (w.heap.size + 1) 2 _ 25 _ HD5.out
  have d3 : w5.cell? ⟨w.heap.size + 1, 3, none⟩ = _ := cell_of_row w5 (w.heap.size + 1) 3 _ 25 _ HD5.out
  have d4 : w5.cell? ⟨w.heap.size + 1, 4, none⟩ = _ := cell_of_row w5 (w.heap.size + 1) 4 _ 25 _ HD5.out
  have d5 : w5.cell? ⟨w.heap.size + 1, 5, none⟩ = _ := cell_of_row w5 (w.heap.size + 1) 5 _ 25 _ HD5.out
  go_upto_region 6 with (go_at_call 35; refine (HVAL2.out _ (HG3.out.fr HF35.out (fun _ h => by cases h))).mono ?_; rintro e w6 ⟨hf6, v, rfl, hlv, hlb⟩; obtain ⟨n2, a2, c2, e2, k2, rfl⟩ := lv_shape0 hlv; have HF6 := Lib.hid hf6; have HLW : Hid (LV w6 (.agg #[.int .u64 n2, .slice a2 c2 e2, .int .u8 k2]) y) := Lib.hid hlv; clear hf6 hlv hlb)
  obtain ⟨w7, hw7⟩ : ∃ x, x = w6.alloc (.cells #[.int .u64 n2, .slice a2 c2 e2, .int .u8 k2] 69) := ⟨_, rfl⟩
  rw [← hw7]
  have hf7 : Fr [] w6 w7 := by rw [hw7]; exact (Fr.refl [] w6).alloc _
  have HR7 : Hid (w7.heap[w6.heap.size]? = some (.cells #[.int .u64 n2, .slice a2 c2 e2, .int .u8 k2] 69 (0, 0))) := Lib.hid (by rw [hw7]; exact heap_alloc_new _ _)
  have HF57 := Lib.hid (HF6.out.trans hf7)
  have HR57 := Lib.hid (HF57.out.blk HR5.out List.not_mem_nil)
  have HLW7 := Lib.hid (LV.frS hf7 HLW.out (fun _ _ => List.not_mem_nil))
  have HLV7 := Lib.hid (LV.frS HF57.out HLV5.out (fun _ _ => List.not_mem_nil))
  have HF37 := Lib.hid (HF35.out.trans HF57.out)
  clear hf7 hw7 d0 d1 d2 d3 d4 d5
  have d0 : w7.cell? ⟨w4.heap.size, 0, none⟩ = _ := cell_of_row w7 w4.heap.size 0 _ 69 _ HR57.out
  have d1 : w7.cell? ⟨w4.heap.size, 1, none⟩ = _ := cell_of_row w7 w4.heap.size 1 _ 69 _ HR57.out
  have d2 : w7.cell? ⟨w4.heap.size, 2, none⟩ = _ := cell_of_row w7 w4.heap.size 2 _ 69 _ HR57.out
  have d3 : w7.cell? ⟨w6.heap.size, 0, none⟩ = _ := cell_of_row w7 w6.heap.size 0 _ 69 _ HR7.out
  have d4 : w7.cell? ⟨w6.heap.size, 1, none⟩ = _ := cell_of_row w7 w6.heap.size 1 _ 69 _ HR7.out
  have d5 : w7.cell? ⟨w6.heap.size, 2, none⟩ = _ := cell_of_row w7 w6.heap.size 2 _ 69 _ HR7.out
  go_wp2_with (go_at_call 36; refine (HEQ.out _ _ _ HLV7.out HLW7.out).mono ?_; rintro e w8 ⟨rfl, hf8⟩; have HF8 := Lib.hid hf8; have HQ1 := Lib.hid (hf8.blk (HF37.out.blk HB2.out List.not_mem_nil) List.not_mem_nil); have HQ2 := Lib.hid (hf8.blk (HF37.out.blk HB3.out List.not_mem_nil) List.not_mem_nil); have q1 := cell_of_row w8 (w.heap.size + 2) 0 _ 4 _ HQ1.out; have q2 := cell_of_row w8 (w.heap.size + 3) 0 _ 4 _ HQ2.out; have f1 := frozen_of_row w8 (w.heap.size + 2) 0 _ 4 HQ1.out; have f2 := frozen_of_row w8 (w.heap.size + 3) 0 _ 4 HQ2.out; clear hf8)
  refine leaves_cons (f := 34) (args := #[.pointer (some ⟨w.heap.size + 1 + 1, 0, none⟩), .pointer (some ⟨w.heap.size + 1 + 1 + 1, 0, none⟩)]) (by simp) (by simp [go_sem]) ?_
  refine (recover_idle34 _ _ _).mono ?_
  rintro e u' w'' ⟨rfl, rfl, rfl⟩
  simp [Leaves, settle, results, Tryz.results17, go_sem, q1, q2]
  exact ((((HF3.out.trans HF37.out).trans HF8.out).setCell (.inr (by simp; omega)) _).setCell (.inr (by simp; omega)) _)
end Go.Proofs.YtaaogjhaokaggaaGreatDoor
