import Derived.Test.YtaaogjhaokaggaaGreatDoorSpcF
import Derived.Deep.RegionLaw
import Derived.Deep.CutRange
import Derived.Deep.DeepCutAuto
import Derived.BigQuiet
import Derived.Laws.Concat
namespace Go.Proofs.YtaaogjhaokaggaaGreatDoor
open Go.RowKit

set_option maxRecDepth 100000 in
set_option maxHeartbeats 100000000 in
theorem spt_s_false (op : Int) (b : Nat) (B : List UInt8) (s0 : Nat) (K : List UInt8) (err out : Bool) (pr : Int) (bg : Bool) (key value s : ByteArray) (k vn : Int) (u f : Nat) (x : Bool) (n m : Int) (hB : B.length ≤ 100000000) (w : World) (stl : Bool) (z : Bool) (hop : op = 1 ∨ op = 10) (hK : ∀ w, Calls Tryz.prog 29 #[.string key] w fun e w' => e = .returned (.bool true) ∧ w' = w) (hV : ∀ w, Calls Tryz.prog 29 #[.string value] w fun e w' => e = .returned (.bool true) ∧ w' = w) (hl1 : Op.bytesLess key.toList K = false) (hl2 : (key.toList == K) = false) (X1 : List UInt8) (hX1 : X1.length ≤ 4000000) (hE1 : ∀ w, Calls Tryz.prog 42 #[.int .i64 1, .string key] w fun e w' => e = .returned (.string ⟨X1.toArray⟩) ∧ Fr [] w w') (X2 : List UInt8) (hX2 : X2.length ≤ 4000000) (hE2 : ∀ w, Calls Tryz.prog 42 #[.int .i64 2, .string value] w fun e w' => e = .returned (.string ⟨X2.toArray⟩) ∧ Fr [] w w')
    (h : SR w b #[.string ⟨B.toArray⟩, .int .i64 s0, .int .i64 1, .bool false, .string ⟨K.toArray⟩, .bool err, .bool out, .bool false, .int .i64 pr, .bool bg, .bool stl]) :
    Calls Tryz.prog 52 #[.pointer (some ⟨b, 0, none⟩), .agg #[.int .i64 op, .string key, .string value, .int .i64 k, .string s, .int .i64 vn, .int .u64 u, .float .f64 f, .bool x, .int .i64 n, .int .i64 m, .bool z]] w fun e w' => e = .returned (.bool true) ∧ SR w' b #[.string ⟨(B ++ ((([44] ++ X1) ++ [61]) ++ X2)).toArray⟩, .int .i64 s0, .int .i64 1, .bool false, .string key, .bool err, .bool out, .bool false, .int .i64 pr, .bool bg, .bool stl] ∧ Fr [b] w w' := by
  have HK := Lib.hid hK
  clear hK
  have HV := Lib.hid hV
  clear hV
  have HE1 := Lib.hid hE1
  have HE2 := Lib.hid hE2
  clear hE1 hE2
  generalize hY1 : ([44] : List UInt8) ++ X1 = Y1
  have lY1 : Y1.length = 1 + X1.length := by rw [← hY1, List.length_append]; try rfl
  have aY1 : ∀ w, (Op.stringOp .add ⟨#[44]⟩ ⟨X1.toArray⟩).run Tryz.prog w = .ok (.string ⟨Y1.toArray⟩) w := fun w => by rw [← hY1]; exact cat_lists w ([44] : List UInt8) X1 (by show 1 + X1.length ≤ 9223372036854775807; omega)
  generalize hY2 : Y1 ++ ([61] : List UInt8) = Y2
  have lY2 : Y2.length = Y1.length + 1 := by rw [← hY2, List.length_append]; try rfl
  have aY2 : ∀ w, (Op.stringOp .add ⟨Y1.toArray⟩ ⟨#[61]⟩).run Tryz.prog w = .ok (.string ⟨Y2.toArray⟩) w := fun w => by rw [← hY2]; exact cat_lists w Y1 ([61] : List UInt8) (by show Y1.length + 1 ≤ 9223372036854775807; omega)
  generalize hY3 : Y2 ++ X2 = Y3
  have lY3 : Y3.length = Y2.length + X2.length := by rw [← hY3, List.length_append]; try rfl
  have aY3 : ∀ w, (Op.stringOp .add ⟨Y2.toArray⟩ ⟨X2.toArray⟩).run Tryz.prog w = .ok (.string ⟨Y3.toArray⟩) w := fun w => by rw [← hY3]; exact cat_lists w Y2 X2 (by show Y2.length + X2.length ≤ 9223372036854775807; omega)
  generalize hRES : B ++ Y3 = RES
  have lRES : RES.length = B.length + Y3.length := by rw [← hRES, List.length_append]; try rfl
  have aRES : ∀ w, (Op.stringOp .add ⟨B.toArray⟩ ⟨Y3.toArray⟩).run Tryz.prog w = .ok (.string ⟨RES.toArray⟩) w := fun w => by rw [← hRES]; exact cat_lists w B Y3 (by show B.length + Y3.length ≤ 9223372036854775807; omega)
  clear hY1
  clear hY2
  clear hY3
  clear hRES
  obtain ⟨w1, HA, HN, hw1⟩ : ∃ q, Fr [] w q ∧ q.heap[w.heap.size]? = some (.cells #[.int .i64 op, .string key, .string value, .int .i64 k, .string s, .int .i64 vn, .int .u64 u, .float .f64 f, .bool x, .int .i64 n, .int .i64 m, .bool z] 38 (0, 0)) ∧ w.alloc (.cells #[.int .i64 op, .string key, .string value, .int .i64 k, .string s, .int .i64 vn, .int .u64 u, .float .f64 f, .bool x, .int .i64 n, .int .i64 m, .bool z] 38) = q := ⟨_, (Fr.refl [] w).alloc _, heap_alloc_new _ _, rfl⟩
  have hbl : b < w.heap.size := (Array.getElem?_eq_some_iff.1 h).1
  have hbg : ¬ b = w.heap.size := by omega
  have hgb : ¬ w.heap.size = b := by omega
  have R1 := Lib.hid (h.fr HA (by simp))
  have N1 := Lib.hid HN
  have F1 : Hid (Fr [b] w w1) := Lib.hid (HA.sub (by simp))
  have HW := Lib.hid hw1
  clear h hbl HA HN hw1
  rcases hop with rfl | rfl
  all_goals
    go_enter Tryz.func52, Tryz.ntmps52
    go_upto_region 16 with fail
    rw [HW.out]
    clear HW
    obtain ⟨⟨d0, d1, d2, d3, d4, d5, d6, d7, d8, d9, d10⟩, f0, f1, f2, f3, f4, f5, f6, f7, f8, f9, f10⟩ := R1.out.all
    obtain ⟨e0, e1, e2, e3, e4, e5, e6, e7, e8, e9, e10, e11⟩ := box_all N1.out
    go_upto_region 19 with fail
    go_quiet (first | (go_at_call_of 29 (Value.string key); exact Calls.quiet_of_same (HK.out _)) | (go_at_call_of 29 (Value.string value); exact Calls.quiet_of_same (HV.out _)))
    obtain ⟨w2, hw⟩ : ∃ y, y = w1.drewN nq := ⟨_, rfl⟩
    have R2 : Hid (SR w2 b #[.string ⟨B.toArray⟩, .int .i64 s0, .int .i64 1, .bool false, .string ⟨K.toArray⟩, .bool err, .bool out, .bool false, .int .i64 pr, .bool bg, .bool stl]) := Lib.hid (by rw [hw]; exact R1.out)
    have FXq : Fr [] w1 w2 := by rw [hw]; exact fr_drewN (Fr.refl _ _) nq
    have N2 := Lib.hid (FXq.blk N1.out (by simp))
    clear FXq
    have F2 : Hid (Fr [b] w w2) := Lib.hid (by rw [hw]; exact fr_drewN F1.out nq)
    rw [← hw]
    clear hw
    clear d0 d1 d2 d3 d4 d5 d6 d7 d8 d9 d10 f0 f1 f2 f3 f4 f5 f6 f7 f8 f9 f10 e0 e1 e2 e3 e4 e5 e6 e7 e8 e9 e10 e11
    obtain ⟨⟨d0, d1, d2, d3, d4, d5, d6, d7, d8, d9, d10⟩, f0, f1, f2, f3, f4, f5, f6, f7, f8, f9, f10⟩ := R2.out.all
    obtain ⟨e0, e1, e2, e3, e4, e5, e6, e7, e8, e9, e10, e11⟩ := box_all N2.out
    go_upto_region 22 with fail
    go_upto_region 23 with fail
    obtain ⟨w3, hw⟩ : ∃ q, q = (w2).setCell ⟨b, 4, none⟩ (.string key) := ⟨_, rfl⟩
    have R3 : Hid (SR w3 b #[.string ⟨B.toArray⟩, .int .i64 s0, .int .i64 1, .bool false, .string key, .bool err, .bool out, .bool false, .int .i64 pr, .bool bg, .bool stl]) := Lib.hid (by rw [hw]; exact (R2.out.set 4 _))
    have FX : Fr [b] w2 w3 := by
      rw [hw]
      repeat (refine Fr.setCell ?_ (.inl (by simp)) _)
      exact Fr.refl _ _
    have N3 := Lib.hid (FX.blk N2.out (by simpa using hgb))
    have F3 := Lib.hid (F2.out.trans FX)
    rw [← hw]
    clear hw FX
    clear d0 d1 d2 d3 d4 d5 d6 d7 d8 d9 d10 f0 f1 f2 f3 f4 f5 f6 f7 f8 f9 f10 e0 e1 e2 e3 e4 e5 e6 e7 e8 e9 e10 e11
    obtain ⟨⟨d0, d1, d2, d3, d4, d5, d6, d7, d8, d9, d10⟩, f0, f1, f2, f3, f4, f5, f6, f7, f8, f9, f10⟩ := R3.out.all
    obtain ⟨e0, e1, e2, e3, e4, e5, e6, e7, e8, e9, e10, e11⟩ := box_all N3.out
    clear d0 d1 d2 d3 d4 d5 d6 d7 d8 d9 d10 f0 f1 f2 f3 f4 f5 f6 f7 f8 f9 f10 e0 e1 e2 e3 e4 e5 e6 e7 e8 e9 e10 e11
    have HQ : Hid (Fr [] w3.drew w3.drew) := Lib.hid (Fr.refl _ _)
    have aq : w3.drew.cell? ⟨b, 0, none⟩ = some _ := cell_of_row w3.drew b 0 _ 94 _ R3.out
    have qq : w3.drew.frozen? ⟨b, 0, none⟩ = false := frozen_of_row w3.drew b 0 _ 94 R3.out
    obtain ⟨-, eq1, eq2, eq3, eq4, eq5, eq6, eq7, eq8, -⟩ := box_all (w := w3.drew) N3.out
    go_region_law (first
      | (go_simp; go_at_call_of 42 (Value.string key); refine (HE1.out _).mono ?_; rintro e w3 ⟨rfl, hf3⟩; have HQ := Lib.hid (HQ.out.trans hf3); have RQ := Lib.hid (R3.out.drew.fr HQ.out (by simp)); have aq := cell_of_row w3 b 0 _ 94 _ RQ.out; have qq := frozen_of_row w3 b 0 _ 94 RQ.out; obtain ⟨-, eq1, eq2, eq3, eq4, eq5, eq6, eq7, eq8, -⟩ := box_all (HQ.out.blk N3.out (by simp)); clear hf3)
      | (go_simp; go_at_call_of 42 (Value.string value); refine (HE2.out _).mono ?_; rintro e w3 ⟨rfl, hf3⟩; have HQ := Lib.hid (HQ.out.trans hf3); have RQ := Lib.hid (R3.out.drew.fr HQ.out (by simp)); have aq := cell_of_row w3 b 0 _ 94 _ RQ.out; have qq := frozen_of_row w3 b 0 _ 94 RQ.out; obtain ⟨-, eq1, eq2, eq3, eq4, eq5, eq6, eq7, eq8, -⟩ := box_all (HQ.out.blk N3.out (by simp)); clear hf3))
    all_goals
      go_simp
      go_wp2
      go_ret
      exact ⟨rfl, RQ.out.set 0 _, (((F3.out.drew).trans (HQ.out.sub (by simp))).setCell (.inl (by simp)) _)⟩
set_option maxRecDepth 100000 in
set_option maxHeartbeats 100000000 in
theorem spt_l_false (op : Int) (b : Nat) (B : List UInt8) (s0 : Nat) (K : List UInt8) (err out : Bool) (pr : Int) (bg : Bool) (key value s : ByteArray) (k vn : Int) (u f : Nat) (x : Bool) (n m : Int) (hB : B.length ≤ 100000000) (w : World) (stl : Bool) (z : Bool) (hop : op = 1 ∨ op = 10) (X1 : List UInt8) (hX1 : X1.length ≤ 4000000) (hE1 : ∀ w, Calls Tryz.prog 42 #[.int .i64 1, .string key] w fun e w' => e = .returned (.string ⟨X1.toArray⟩) ∧ Fr [] w w') (X2 : List UInt8) (hX2 : X2.length ≤ 4000000) (hE2 : ∀ w, Calls Tryz.prog 42 #[.int .i64 2, .string value] w fun e w' => e = .returned (.string ⟨X2.toArray⟩) ∧ Fr [] w w')
    (h : SR w b #[.string ⟨B.toArray⟩, .int .i64 s0, .int .i64 1, .bool false, .string ⟨K.toArray⟩, .bool err, .bool out, .bool true, .int .i64 pr, .bool bg, .bool stl]) :
    Calls Tryz.prog 52 #[.pointer (some ⟨b, 0, none⟩), .agg #[.int .i64 op, .string key, .string value, .int .i64 k, .string s, .int .i64 vn, .int .u64 u, .float .f64 f, .bool x, .int .i64 n, .int .i64 m, .bool z]] w fun e w' => e = .returned (.bool true) ∧ SR w' b #[.string ⟨(B ++ ((([44] ++ X1) ++ [61]) ++ X2)).toArray⟩, .int .i64 s0, .int .i64 1, .bool false, .string ⟨K.toArray⟩, .bool err, .bool out, .bool true, .int .i64 pr, .bool bg, .bool stl] ∧ Fr [b] w w' := by
  have HE1 := Lib.hid hE1
  have HE2 := Lib.hid hE2
  clear hE1 hE2
  generalize hY1 : ([44] : List UInt8) ++ X1 = Y1
  have lY1 : Y1.length = 1 + X1.length := by rw [← hY1, List.length_append]; try rfl
  have aY1 : ∀ w, (Op.stringOp .add ⟨#[44]⟩ ⟨X1.toArray⟩).run Tryz.prog w = .ok (.string ⟨Y1.toArray⟩) w := fun w => by rw [← hY1]; exact cat_lists w ([44] : List UInt8) X1 (by show 1 + X1.length ≤ 9223372036854775807; omega)
  generalize hY2 : Y1 ++ ([61] : List UInt8) = Y2
  have lY2 : Y2.length = Y1.length + 1 := by rw [← hY2, List.length_append]; try rfl
  have aY2 : ∀ w, (Op.stringOp .add ⟨Y1.toArray⟩ ⟨#[61]⟩).run Tryz.prog w = .ok (.string ⟨Y2.toArray⟩) w := fun w => by rw [← hY2]; exact cat_lists w Y1 ([61] : List UInt8) (by show Y1.length + 1 ≤ 9223372036854775807; omega)
  generalize hY3 : Y2 ++ X2 = Y3
  have lY3 : Y3.length = Y2.length + X2.length := by rw [← hY3, List.length_append]; try rfl
  have aY3 : ∀ w, (Op.stringOp .add ⟨Y2.toArray⟩ ⟨X2.toArray⟩).run Tryz.prog w = .ok (.string ⟨Y3.toArray⟩) w := fun w => by rw [← hY3]; exact cat_lists w Y2 X2 (by show Y2.length + X2.length ≤ 9223372036854775807; omega)
  generalize hRES : B ++ Y3 = RES
  have lRES : RES.length = B.length + Y3.length := by rw [← hRES, List.length_append]; try rfl
  have aRES : ∀ w, (Op.stringOp .add ⟨B.toArray⟩ ⟨Y3.toArray⟩).run Tryz.prog w = .ok (.string ⟨RES.toArray⟩) w := fun w => by rw [← hRES]; exact cat_lists w B Y3 (by show B.length + Y3.length ≤ 9223372036854775807; omega)
  clear hY1
  clear hY2
  clear hY3
  clear hRES
  obtain ⟨w1, HA, HN, hw1⟩ : ∃ q, Fr [] w q ∧ q.heap[w.heap.size]? = some (.cells #[.int .i64 op, .string key, .string value, .int .i64 k, .string s, .int .i64 vn, .int .u64 u, .float .f64 f, .bool x, .int .i64 n, .int .i64 m, .bool z] 38 (0, 0)) ∧ w.alloc (.cells #[.int .i64 op, .string key, .string value, .int .i64 k, .string s, .int .i64 vn, .int .u64 u, .float .f64 f, .bool x, .int .i64 n, .int .i64 m, .bool z] 38) = q := ⟨_, (Fr.refl [] w).alloc _, heap_alloc_new _ _, rfl⟩
  have hbl : b < w.heap.size := (Array.getElem?_eq_some_iff.1 h).1
  have hbg : ¬ b = w.heap.size := by omega
  have hgb : ¬ w.heap.size = b := by omega
  have R1 := Lib.hid (h.fr HA (by simp))
  have N1 := Lib.hid HN
  have F1 : Hid (Fr [b] w w1) := Lib.hid (HA.sub (by simp))
  have HW := Lib.hid hw1
  clear h hbl HA HN hw1
  rcases hop with rfl | rfl
  all_goals
    go_enter Tryz.func52, Tryz.ntmps52
    go_upto_region 16 with fail
    rw [HW.out]
    clear HW
    obtain ⟨⟨d0, d1, d2, d3, d4, d5, d6, d7, d8, d9, d10⟩, f0, f1, f2, f3, f4, f5, f6, f7, f8, f9, f10⟩ := R1.out.all
    obtain ⟨e0, e1, e2, e3, e4, e5, e6, e7, e8, e9, e10, e11⟩ := box_all N1.out
    go_upto_region 22 with fail
    go_upto_region 23 with fail
    clear d0 d1 d2 d3 d4 d5 d6 d7 d8 d9 d10 f0 f1 f2 f3 f4 f5 f6 f7 f8 f9 f10 e0 e1 e2 e3 e4 e5 e6 e7 e8 e9 e10 e11
    have HQ : Hid (Fr [] w1.drew w1.drew) := Lib.hid (Fr.refl _ _)
    have aq : w1.drew.cell? ⟨b, 0, none⟩ = some _ := cell_of_row w1.drew b 0 _ 94 _ R1.out
    have qq : w1.drew.frozen? ⟨b, 0, none⟩ = false := frozen_of_row w1.drew b 0 _ 94 R1.out
    obtain ⟨-, eq1, eq2, eq3, eq4, eq5, eq6, eq7, eq8, -⟩ := box_all (w := w1.drew) N1.out
    go_region_law (first
      | (go_simp; go_at_call_of 42 (Value.string key); refine (HE1.out _).mono ?_; rintro e w3 ⟨rfl, hf3⟩; have HQ := Lib.hid (HQ.out.trans hf3); have RQ := Lib.hid (R1.out.drew.fr HQ.out (by simp)); have aq := cell_of_row w3 b 0 _ 94 _ RQ.out; have qq := frozen_of_row w3 b 0 _ 94 RQ.out; obtain ⟨-, eq1, eq2, eq3, eq4, eq5, eq6, eq7, eq8, -⟩ := box_all (HQ.out.blk N1.out (by simp)); clear hf3)
      | (go_simp; go_at_call_of 42 (Value.string value); refine (HE2.out _).mono ?_; rintro e w3 ⟨rfl, hf3⟩; have HQ := Lib.hid (HQ.out.trans hf3); have RQ := Lib.hid (R1.out.drew.fr HQ.out (by simp)); have aq := cell_of_row w3 b 0 _ 94 _ RQ.out; have qq := frozen_of_row w3 b 0 _ 94 RQ.out; obtain ⟨-, eq1, eq2, eq3, eq4, eq5, eq6, eq7, eq8, -⟩ := box_all (HQ.out.blk N1.out (by simp)); clear hf3))
    all_goals
      go_simp
      go_wp2
      go_ret
      exact ⟨rfl, RQ.out.set 0 _, (((F1.out.drew).trans (HQ.out.sub (by simp))).setCell (.inl (by simp)) _)⟩
end Go.Proofs.YtaaogjhaokaggaaGreatDoor
