import Derived.Test.YtaaogjhaokaggaaGreatDoorEqV
namespace Go.Proofs.YtaaogjhaokaggaaGreatDoor
open Go.RowKit

def kcode : Val → Int
  | .str _ => 1
  | .int _ => 2
  | .uint _ => 3
  | .flt _ => 4
  | .bool _ => 5
def vnum : Val → Int
  | .str _ => 0
  | .int n => n % 18446744073709551616
  | .uint n => n
  | .flt n => n
  | .bool b => if b then 1 else 0
def vbytes : Val → List UInt8
  | .str s => s
  | _ => []
theorem lv_parts {w : World} {v : Value} {x : Val} (h : LV w v x) : ∃ b k, v = .agg #[.int .u64 (vnum x), b, .int .u8 k] ∧ Own w 5 b (vbytes x) ∧ ∀ W, Calls Tryz.prog 63 #[.agg #[.int .u64 (vnum x), b, .int .u8 k]] W fun e w' => e = .returned (.int .u8 (kcode x)) ∧ Fr [] W w' := by
  cases x with
  | str s => obtain ⟨b, rfl, ho⟩ := h; exact ⟨b, 0, rfl, ho, fun W => kind_str _ _ W⟩
  | int n => exact ⟨_, 2, h.1, Own.nil _ _, fun W => kind_num _ _ 2 rfl W⟩
  | uint n => exact ⟨_, 3, h.1, Own.nil _ _, fun W => kind_num _ _ 3 rfl W⟩
  | flt n => exact ⟨_, 4, h, Own.nil _ _, fun W => kind_num _ _ 4 rfl W⟩
  | bool n => exact ⟨_, 5, h, Own.nil _ _, fun W => kind_num _ _ 5 rfl W⟩
theorem veq_kind {x y : Val} (h : kcode x ≠ kcode y) : veq x y = false := by
  cases x <;> cases y <;> first | rfl | exact absurd rfl h
theorem veq_plain {w : World} {v v' : Value} {x y : Val} (hx : LV w v x) (hy : LV w v' y) (h : kcode x = kcode y) (h4 : kcode x ≠ 4) : veq x y = (vnum x == vnum y && vbytes x == vbytes y) := by
  cases x <;> cases y <;> first | (simp [kcode] at h; done) | (exact absurd rfl h4) | skip
  case str.str a b => simp [veq, vnum, vbytes]
  case int.int a b =>
    have := hx.2
    have := hy.2
    simp only [veq, vnum, vbytes, BEq.rfl, Bool.and_true]
    rw [Bool.eq_iff_iff, beq_iff_eq, beq_iff_eq]
    omega
  case uint.uint a b =>
    simp only [veq, vnum, vbytes, BEq.rfl, Bool.and_true]
    rw [Bool.eq_iff_iff, beq_iff_eq, beq_iff_eq]
    omega
  case bool.bool a b => cases a <;> cases b <;> rfl
theorem flt_of {x : Val} (h : kcode x = 4) : ∃ n, x = .flt n := by
  cases x <;> first | exact ⟨_, rfl⟩ | (simp [kcode] at h; done)
theorem beqE {w : World} {b b' : Value} {l l' : List UInt8} (h : Own w 5 b l) (h' : Own w 5 b' l') : Calls Tryz.prog 64 #[b, b'] w fun e w' => e = .returned (.bool (l == l')) ∧ w' = w := by
  have key : ∀ l : List UInt8, strOfNums (l.map fun x => (x.toNat : Int)) = ⟨l.toArray⟩ := fun l => strOfNums_bytes ⟨l.toArray⟩
  have := Tryz.bytes_Equal b b' (l.map fun x => (x.toNat : Int)) (l'.map fun x => (x.toNat : Int)) w (by rw [key]; exact conv_own h) (by rw [key]; exact conv_own h')
  have k2 : ∀ l : List UInt8, Lib.bytesOf (l.map fun x => (x.toNat : Int)) = l := fun l => by
    have h := key l
    have h2 := congrArg (fun x : ByteArray => x.data.toList) h
    simp only [strOfNums_data] at h2
    exact h2
  rw [k2, k2] at this
  exact this

set_option maxRecDepth 100000 in
set_option maxHeartbeats 2000000 in
theorem equal_any (v1 v2 : Value) (x y : Val) (fx : x.fin) (fy : y.fin) (w : World) (hx : LV w v1 x) (hy : LV w v2 y) :
    Calls Tryz.prog 36 #[v1, v2] w fun e w' => e = .returned (.bool (veq x y)) ∧ Fr [] w w' := by
  obtain ⟨b1, k1, rfl, ho1, hk1⟩ := lv_parts hx
  obtain ⟨b2, k2, rfl, ho2, hk2⟩ := lv_parts hy
  have hvk := veq_kind (x := x) (y := y)
  have hvp := veq_plain hx hy
  have hK4 : ∀ z : Val, kcode z = 4 → ∃ n, z = .flt n := fun z => flt_of
  have HVF := Lib.hid (show kcode x = 4 → kcode y = 4 → ∀ W : World, Calls Tryz.prog 65 #[.agg #[.int .u64 (vnum x), b1, .int .u8 k1]] W (fun e w' => e = .returned (.float .f64 (vnum x).toNat) ∧ Fr [] W w') ∧ Calls Tryz.prog 65 #[.agg #[.int .u64 (vnum y), b2, .int .u8 k2]] W (fun e w' => e = .returned (.float .f64 (vnum y).toNat) ∧ Fr [] W w') ∧ (FloatKind.f64.format.order (vnum x).toNat (vnum y).toNat == some .eq) = veq x y from fun h1 h2 W => by
    obtain ⟨n, rfl⟩ := flt_of h1
    obtain ⟨m, rfl⟩ := flt_of h2
    have e1 : k1 = 4 := by have := hx; simp [LV] at this; exact this.2.2
    have e2 : k2 = 4 := by have := hy; simp [LV] at this; exact this.2.2
    subst e1; subst e2
    refine ⟨floatV_any n b1 W, floatV_any m b2 W, ?_⟩
    have f1 : finOk n := fx
    have f2 : finOk m := fy
    exact ord_eq f1.1 f2.1 ((fin64_iff n).1 f1.2) ((fin64_iff m).1 f2.2))
  clear hK4 hx hy
  obtain ⟨K1, hK1⟩ : ∃ K, K = kcode x := ⟨_, rfl⟩
  obtain ⟨K2, hK2⟩ : ∃ K, K = kcode y := ⟨_, rfl⟩
  obtain ⟨N1, hN1⟩ : ∃ N, N = vnum x := ⟨_, rfl⟩
  obtain ⟨N2, hN2⟩ : ∃ N, N = vnum y := ⟨_, rfl⟩
  obtain ⟨l1, hl1⟩ : ∃ N, N = vbytes x := ⟨_, rfl⟩
  obtain ⟨l2, hl2⟩ : ∃ N, N = vbytes y := ⟨_, rfl⟩
  obtain ⟨R, hR⟩ : ∃ R, R = veq x y := ⟨_, rfl⟩
  rw [← hK1, ← hK2, ← hN1, ← hN2, ← hR] at HVF
  rw [← hK1, ← hK2, ← hR] at hvk
  rw [← hK1, ← hK2, ← hN1, ← hN2, ← hl1, ← hl2, ← hR] at hvp
  rw [← hN1, ← hK1] at hk1
  rw [← hN2, ← hK2] at hk2
  rw [← hl1] at ho1
  rw [← hl2] at ho2
  rw [← hN1, ← hN2, ← hR]
  have HK1 := Lib.hid hk1
  have HK2 := Lib.hid hk2
  have HO1 := Lib.hid ho1
  have HO2 := Lib.hid ho2
  clear hk1 hk2 ho1 ho2 hK1 hK2 hN1 hN2 hl1 hl2 hR fx fy
  obtain ⟨w3, hw3⟩ : ∃ w3, w3 = (w.alloc (.cells #[.int .u64 N1, b1, .int .u8 k1] 69)).alloc (.cells #[.int .u64 N2, b2, .int .u8 k2] 69) := ⟨_, rfl⟩
  have hf3 : Fr [] w w3 := by rw [hw3]; exact ((Fr.refl [] w).alloc _).alloc _
  have hb0 : w3.heap[w.heap.size]? = some (.cells #[.int .u64 N1, b1, .int .u8 k1] 69 (0, 0)) := by
    rw [hw3]
    exact ((Fr.refl [] _).alloc _).blk (heap_alloc_new w _) List.not_mem_nil
  have hb1 : w3.heap[w.heap.size + 1]? = some (.cells #[.int .u64 N2, b2, .int .u8 k2] 69 (0, 0)) := by
    rw [hw3]
    have := heap_alloc_new (w.alloc (.cells #[.int .u64 N1, b1, .int .u8 k1] 69)) (.cells #[.int .u64 N2, b2, .int .u8 k2] 69)
    simpa using this
  have HB0 := Lib.hid hb0
  have HB1 := Lib.hid hb1
  have HF3 := Lib.hid hf3
  have HW3 := Lib.hid hw3
  clear hb0 hb1 hf3 hw3
  by_cases hne : K1 = K2
  case neg =>
    have hvF := hvk hne
    rw [hvF]
    have hn1 : (K2 == K1) = false := by rw [beq_eq_false_iff_ne]; exact fun e => hne e.symm
    have hn2 : ¬ K2 = K1 := fun e => hne e.symm
    clear hvk hvp hne hvF
    go_enter Tryz.func36, Tryz.ntmps36
    go_upto_region 1 with fail
    rw [← HW3.out]
    have c0 : w3.cell? ⟨w.heap.size, 0, none⟩ = _ := cell_of_row w3 w.heap.size 0 _ 69 _ HB0.out
    have c1 : w3.cell? ⟨w.heap.size, 1, none⟩ = _ := cell_of_row w3 w.heap.size 1 _ 69 _ HB0.out
    have c2 : w3.cell? ⟨w.heap.size, 2, none⟩ = _ := cell_of_row w3 w.heap.size 2 _ 69 _ HB0.out
    go_wp2_with (first
      | (go_at_call_of 63 (Value.agg #[.int .u64 N1, b1, .int .u8 k1]); refine (HK1.out _).mono ?_; rintro e w4 ⟨rfl, hf4⟩; have HF4 := Lib.hid (HF3.out.trans hf4); have HB4 := Lib.hid (hf4.blk HB1.out List.not_mem_nil); have e0 : w4.cell? ⟨w.heap.size + 1, 0, none⟩ = _ := cell_of_row w4 (w.heap.size + 1) 0 _ 69 _ HB4.out; have e1 : w4.cell? ⟨w.heap.size + 1, 1, none⟩ = _ := cell_of_row w4 (w.heap.size + 1) 1 _ 69 _ HB4.out; have e2 : w4.cell? ⟨w.heap.size + 1, 2, none⟩ = _ := cell_of_row w4 (w.heap.size + 1) 2 _ 69 _ HB4.out; clear hf4)
      | (go_at_call 63; refine (HK2.out _).mono ?_; rintro e w5 ⟨rfl, hf5⟩))
    go_ret
    exact ⟨rfl, HF4.out.trans hf5⟩
  subst hne
  by_cases h4 : K1 = 4
  case neg =>
    have hvP := hvp rfl h4
    rw [hvP]
    have hn1 : (K1 == 4) = false := by rw [beq_eq_false_iff_ne]; exact h4
    clear hvk hvp hvP
    cases hN : (N1 == N2) with
    | false =>
      rw [Bool.false_and]
      go_enter Tryz.func36, Tryz.ntmps36
      go_upto_region 1 with fail
      rw [← HW3.out]
      have c0 : w3.cell? ⟨w.heap.size, 0, none⟩ = _ := cell_of_row w3 w.heap.size 0 _ 69 _ HB0.out
      have c1 : w3.cell? ⟨w.heap.size, 1, none⟩ = _ := cell_of_row w3 w.heap.size 1 _ 69 _ HB0.out
      have c2 : w3.cell? ⟨w.heap.size, 2, none⟩ = _ := cell_of_row w3 w.heap.size 2 _ 69 _ HB0.out
      go_wp2_with (first
        | (go_at_call_of 63 (Value.agg #[.int .u64 N1, b1, .int .u8 k1]); refine (HK1.out _).mono ?_; rintro e w4 ⟨rfl, hf4⟩; have HF4 := Lib.hid (HF3.out.trans hf4); have HB3 := Lib.hid (hf4.blk HB0.out List.not_mem_nil); have HB4 := Lib.hid (hf4.blk HB1.out List.not_mem_nil); have e0 : w4.cell? ⟨w.heap.size + 1, 0, none⟩ = _ := cell_of_row w4 (w.heap.size + 1) 0 _ 69 _ HB4.out; have e1 : w4.cell? ⟨w.heap.size + 1, 1, none⟩ = _ := cell_of_row w4 (w.heap.size + 1) 1 _ 69 _ HB4.out; have e2 : w4.cell? ⟨w.heap.size + 1, 2, none⟩ = _ := cell_of_row w4 (w.heap.size + 1) 2 _ 69 _ HB4.out; clear hf4)
        | (go_at_call 63; refine (HK2.out _).mono ?_; rintro e w5 ⟨rfl, hf5⟩; have HF5 := Lib.hid (HF4.out.trans hf5); have g0 : w5.cell? ⟨w.heap.size, 0, none⟩ = _ := cell_of_row w5 w.heap.size 0 _ 69 _ (hf5.blk HB3.out List.not_mem_nil); have g3 : w5.cell? ⟨w.heap.size + 1, 0, none⟩ = _ := cell_of_row w5 (w.heap.size + 1) 0 _ 69 _ (hf5.blk HB4.out List.not_mem_nil); clear hf5))
      go_ret
      exact ⟨rfl, HF5.out⟩
    | true =>
      rw [Bool.true_and]
      go_enter Tryz.func36, Tryz.ntmps36
      go_upto_region 1 with fail
      rw [← HW3.out]
      have c0 : w3.cell? ⟨w.heap.size, 0, none⟩ = _ := cell_of_row w3 w.heap.size 0 _ 69 _ HB0.out
      have c1 : w3.cell? ⟨w.heap.size, 1, none⟩ = _ := cell_of_row w3 w.heap.size 1 _ 69 _ HB0.out
      have c2 : w3.cell? ⟨w.heap.size, 2, none⟩ = _ := cell_of_row w3 w.heap.size 2 _ 69 _ HB0.out
      go_wp2_with (first
        | (go_at_call_of 63 (Value.agg #[.int .u64 N1, b1, .int .u8 k1]); refine (HK1.out _).mono ?_; rintro e w4 ⟨rfl, hf4⟩; have HF4 := Lib.hid (HF3.out.trans hf4); have HB3 := Lib.hid (hf4.blk HB0.out List.not_mem_nil); have HB4 := Lib.hid (hf4.blk HB1.out List.not_mem_nil); have e0 : w4.cell? ⟨w.heap.size + 1, 0, none⟩ = _ := cell_of_row w4 (w.heap.size + 1) 0 _ 69 _ HB4.out; have e1 : w4.cell? ⟨w.heap.size + 1, 1, none⟩ = _ := cell_of_row w4 (w.heap.size + 1) 1 _ 69 _ HB4.out; have e2 : w4.cell? ⟨w.heap.size + 1, 2, none⟩ = _ := cell_of_row w4 (w.heap.size + 1) 2 _ 69 _ HB4.out; clear hf4)
        | (go_at_call 63; refine (HK2.out _).mono ?_; rintro e w5 ⟨rfl, hf5⟩; have HF5 := Lib.hid (HF4.out.trans hf5); have g0 : w5.cell? ⟨w.heap.size, 0, none⟩ = _ := cell_of_row w5 w.heap.size 0 _ 69 _ (hf5.blk HB3.out List.not_mem_nil); have g1 : w5.cell? ⟨w.heap.size, 1, none⟩ = _ := cell_of_row w5 w.heap.size 1 _ 69 _ (hf5.blk HB3.out List.not_mem_nil); have g3 : w5.cell? ⟨w.heap.size + 1, 0, none⟩ = _ := cell_of_row w5 (w.heap.size + 1) 0 _ 69 _ (hf5.blk HB4.out List.not_mem_nil); have g4 : w5.cell? ⟨w.heap.size + 1, 1, none⟩ = _ := cell_of_row w5 (w.heap.size + 1) 1 _ 69 _ (hf5.blk HB4.out List.not_mem_nil); clear hf5)
        | (go_at_call 64; refine (beqE (HO1.out.fr HF5.out (fun _ _ => List.not_mem_nil)) (HO2.out.fr HF5.out (fun _ _ => List.not_mem_nil))).mono ?_; rintro e w6 ⟨rfl, rfl⟩))
      go_ret
      exact ⟨rfl, HF5.out⟩
  subst h4
  obtain ⟨HA, HB, hR⟩ : (∀ W, Calls Tryz.prog 65 #[.agg #[.int .u64 N1, b1, .int .u8 k1]] W (fun e w' => e = .returned (.float .f64 N1.toNat) ∧ Fr [] W w')) ∧ (∀ W, Calls Tryz.prog 65 #[.agg #[.int .u64 N2, b2, .int .u8 k2]] W (fun e w' => e = .returned (.float .f64 N2.toNat) ∧ Fr [] W w')) ∧ (FloatKind.f64.format.order N1.toNat N2.toNat == some .eq) = R :=
    ⟨fun W => (HVF.out rfl rfl W).1, fun W => (HVF.out rfl rfl W).2.1, (HVF.out rfl rfl w).2.2⟩
  have HFA := Lib.hid HA
  have HFB := Lib.hid HB
  clear hvk hvp HA HB HVF
  go_enter Tryz.func36, Tryz.ntmps36
  go_upto_region 1 with fail
  rw [← HW3.out]
  have c0 : w3.cell? ⟨w.heap.size, 0, none⟩ = _ := cell_of_row w3 w.heap.size 0 _ 69 _ HB0.out
  have c1 : w3.cell? ⟨w.heap.size, 1, none⟩ = _ := cell_of_row w3 w.heap.size 1 _ 69 _ HB0.out
  have c2 : w3.cell? ⟨w.heap.size, 2, none⟩ = _ := cell_of_row w3 w.heap.size 2 _ 69 _ HB0.out
  go_upto_region 6 with (first
    | (go_at_call_of 63 (Value.agg #[.int .u64 N1, b1, .int .u8 k1]); refine (HK1.out _).mono ?_; rintro e w4 ⟨rfl, hf4⟩; have HF4 := Lib.hid (HF3.out.trans hf4); have HB3 := Lib.hid (hf4.blk HB0.out List.not_mem_nil); have HB4 := Lib.hid (hf4.blk HB1.out List.not_mem_nil); have e0 : w4.cell? ⟨w.heap.size + 1, 0, none⟩ = _ := cell_of_row w4 (w.heap.size + 1) 0 _ 69 _ HB4.out; have e1 : w4.cell? ⟨w.heap.size + 1, 1, none⟩ = _ := cell_of_row w4 (w.heap.size + 1) 1 _ 69 _ HB4.out; have e2 : w4.cell? ⟨w.heap.size + 1, 2, none⟩ = _ := cell_of_row w4 (w.heap.size + 1) 2 _ 69 _ HB4.out; clear hf4)
    | (go_at_call 63; refine (HK2.out _).mono ?_; rintro e w5 ⟨rfl, hf5⟩; have HF5 := Lib.hid (HF4.out.trans hf5); have HB5 := Lib.hid (hf5.blk HB3.out List.not_mem_nil); have HB6 := Lib.hid (hf5.blk HB4.out List.not_mem_nil); clear hf5))
  have g0 : w5.cell? ⟨w.heap.size, 0, none⟩ = _ := cell_of_row w5 w.heap.size 0 _ 69 _ HB5.out
  have g1 : w5.cell? ⟨w.heap.size, 1, none⟩ = _ := cell_of_row w5 w.heap.size 1 _ 69 _ HB5.out
  have g2 : w5.cell? ⟨w.heap.size, 2, none⟩ = _ := cell_of_row w5 w.heap.size 2 _ 69 _ HB5.out
  have g3 : w5.cell? ⟨w.heap.size + 1, 0, none⟩ = _ := cell_of_row w5 (w.heap.size + 1) 0 _ 69 _ HB6.out
  have g4 : w5.cell? ⟨w.heap.size + 1, 1, none⟩ = _ := cell_of_row w5 (w.heap.size + 1) 1 _ 69 _ HB6.out
  have g5 : w5.cell? ⟨w.heap.size + 1, 2, none⟩ = _ := cell_of_row w5 (w.heap.size + 1) 2 _ 69 _ HB6.out
  clear c0 c1 c2 e0 e1 e2
  go_region_with (first
    | (go_at_call_of 65 (Value.agg #[.int .u64 N1, b1, .int .u8 k1]); refine (HFA.out _).mono ?_; rintro e w6 ⟨rfl, hf6⟩; have HF6 := Lib.hid (HF5.out.drew.trans hf6); have HB7 := Lib.hid (hf6.blk (show w5.drew.heap[w.heap.size + 1]? = _ from HB6.out) List.not_mem_nil); have q3 : w6.cell? ⟨w.heap.size + 1, 0, none⟩ = _ := cell_of_row w6 (w.heap.size + 1) 0 _ 69 _ HB7.out; have q4 : w6.cell? ⟨w.heap.size + 1, 1, none⟩ = _ := cell_of_row w6 (w.heap.size + 1) 1 _ 69 _ HB7.out; have q5 : w6.cell? ⟨w.heap.size + 1, 2, none⟩ = _ := cell_of_row w6 (w.heap.size + 1) 2 _ 69 _ HB7.out; clear hf6)
    | (go_at_call 65; refine (HFB.out _).mono ?_; rintro e w7 ⟨rfl, hf7⟩; have HF7 := Lib.hid (HF6.out.trans hf7); clear hf7))
  all_goals
    go_wp2_with fail
    go_ret
    exact ⟨rfl, HF7.out⟩
end Go.Proofs.YtaaogjhaokaggaaGreatDoor
