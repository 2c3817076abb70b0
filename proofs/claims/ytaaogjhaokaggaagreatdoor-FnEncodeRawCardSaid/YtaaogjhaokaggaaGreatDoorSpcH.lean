import Derived.Test.YtaaogjhaokaggaaGreatDoorSpcF
import Derived.Deep.RegionLaw
import Derived.Deep.CutRange
import Derived.Deep.DeepCutAuto
import Derived.BigQuiet
import Derived.Laws.Concat
namespace Go.Proofs.YtaaogjhaokaggaaGreatDoor
open Go.RowKit

set_option maxRecDepth 100000 in
set_option maxHeartbeats 100000000 in
theorem spf_2_s_false (op : Int) (b : Nat) (B : List UInt8) (s0 : Nat) (K : List UInt8) (err out : Bool) (pr : Int) (bg : Bool) (key value s : ByteArray) (k vn : Int) (u f : Nat) (x : Bool) (n m : Int) (hB : B.length ≤ 100000000) (w : World) (stl : Bool) (z : Bool) (hop : op = 2 ∨ op = 11) (hK : ∀ w, Calls Tryz.prog 29 #[.string key] w fun e w' => e = .returned (.bool true) ∧ w' = w) (X1 : List UInt8) (hX1 : X1.length ≤ 4000000) (hE1 : ∀ w, Calls Tryz.prog 42 #[.int .i64 3, .string key] w fun e w' => e = .returned (.string ⟨X1.toArray⟩) ∧ Fr [] w w') (X2 : List UInt8) (hX2 : X2.length ≤ 4000000) (hE2 : ∀ wx, Fr [b] w wx → Calls Tryz.prog 19 #[.agg #[.int .i64 k, .string s, .int .i64 vn, .int .u64 u, .float .f64 f, .bool x]] wx fun e w' => e = .returned (.string ⟨X2.toArray⟩) ∧ Fr [] wx w')
    (h : SR w b #[.string ⟨B.toArray⟩, .int .i64 s0, .int .i64 2, .bool false, .string ⟨K.toArray⟩, .bool err, .bool out, .bool false, .int .i64 pr, .bool bg, .bool stl]) :
    Calls Tryz.prog 52 #[.pointer (some ⟨b, 0, none⟩), .agg #[.int .i64 op, .string key, .string value, .int .i64 k, .string s, .int .i64 vn, .int .u64 u, .float .f64 f, .bool x, .int .i64 n, .int .i64 m, .bool z]] w fun e w' => e = .returned (.bool true) ∧ SR w' b #[.string ⟨((B ++ [44]) ++ ((X1 ++ [61]) ++ X2)).toArray⟩, .int .i64 s0, .int .i64 2, .bool false, .string ⟨K.toArray⟩, .bool err, .bool out, .bool false, .int .i64 pr, .bool bg, .bool stl] ∧ Fr [b] w w' := by
  have HK := Lib.hid hK
  clear hK
  have HE1 := Lib.hid hE1
  have HE2 := Lib.hid hE2
  clear hE1 hE2
  generalize hD : B ++ ([44] : List UInt8) = D
  have lD : D.length = B.length + 1 := by rw [← hD, List.length_append]; try rfl
  have aD : ∀ w, (Op.stringOp .add ⟨B.toArray⟩ ⟨#[44]⟩).run Tryz.prog w = .ok (.string ⟨D.toArray⟩) w := fun w => by rw [← hD]; exact cat_lists w B ([44] : List UInt8) (by show B.length + 1 ≤ 9223372036854775807; omega)
  generalize hY1 : X1 ++ ([61] : List UInt8) = Y1
  have lY1 : Y1.length = X1.length + 1 := by rw [← hY1, List.length_append]; try rfl
  have aY1 : ∀ w, (Op.stringOp .add ⟨X1.toArray⟩ ⟨#[61]⟩).run Tryz.prog w = .ok (.string ⟨Y1.toArray⟩) w := fun w => by rw [← hY1]; exact cat_lists w X1 ([61] : List UInt8) (by show X1.length + 1 ≤ 9223372036854775807; omega)
  generalize hY2 : Y1 ++ X2 = Y2
  have lY2 : Y2.length = Y1.length + X2.length := by rw [← hY2, List.length_append]; try rfl
  have aY2 : ∀ w, (Op.stringOp .add ⟨Y1.toArray⟩ ⟨X2.toArray⟩).run Tryz.prog w = .ok (.string ⟨Y2.toArray⟩) w := fun w => by rw [← hY2]; exact cat_lists w Y1 X2 (by show Y1.length + X2.length ≤ 9223372036854775807; omega)
  generalize hRES : D ++ Y2 = RES
  have lRES : RES.length = D.length + Y2.length := by rw [← hRES, List.length_append]; try rfl
  have aRES : ∀ w, (Op.stringOp .add ⟨D.toArray⟩ ⟨Y2.toArray⟩).run Tryz.prog w = .ok (.string ⟨RES.toArray⟩) w := fun w => by rw [← hRES]; exact cat_lists w D Y2 (by show D.length + Y2.length ≤ 9223372036854775807; omega)
  clear hD
  clear hY1
  clear hY2
  clear hRES
  obtain ⟨w1, HA, HN, hw1⟩ : ∃ q, Fr [] w q ∧ q.heap[w.heap.size]? = some (.cells #[.int .i64 op, .string key, .string value, .int .i64 k, .string s, .int .i64 vn, .int .u64 u, .float .f64 f, .bool x, .int .i64 n, .int .i64 m, .bool z] 38 (0, 0)) ∧ w.alloc (.cells #[.int .i64 op, .string key, .string value, .int .i64 k, .string s, .int .i64 vn, .int .u64 u, .float .f64 f, .bool x, .int .i64 n, .int .i64 m, .bool z] 38) = q := ⟨_, (Fr.refl [] w).alloc _, heap_alloc_new _ _, rfl⟩
  have hbl : b < w.heap.size := (Array.getElem?_eq_some_iff.1 h).1
  have hbg : ¬ b = w.heap.size := by omega
  have hgb : ¬ w.heap.size = b := by omega
  have R1 := Lib.hid (h.fr HA (by simp))
  have N1 := Lib.hid HN
  have F1 : Hid (Fr [b] w w1) := Lib.hid (HA.sub (by simp))
  have HW := Lib.hid hw1
  clear h hbl HA HN hw1
  rcases hop with rfl | rfl
  all_goals
    go_enter Tryz.func52, Tryz.ntmps52
    go_upto_region 26 with fail
    rw [HW.out]
    clear HW
    obtain ⟨⟨d0, d1, d2, d3, d4, d5, d6, d7, d8, d9, d10⟩, f0, f1, f2, f3, f4, f5, f6, f7, f8, f9, f10⟩ := R1.out.all
    obtain ⟨e0, e1, e2, e3, e4, e5, e6, e7, e8, e9, e10, e11⟩ := box_all N1.out
    go_upto_region 29 with fail
    go_upto_region 30 with fail
    go_upto_region 32 with (go_at_call 29; refine (HK.out _).mono ?_; rintro e wz ⟨rfl, rfl⟩)
    go_upto_region 34 with fail
    go_upto_region 37 with fail
    obtain ⟨w2, hw⟩ : ∃ q, q = ((w1).setCell ⟨b, 2, none⟩ (.int .i64 2)).setCell ⟨b, 0, none⟩ (.string ⟨D.toArray⟩) := ⟨_, rfl⟩
    have R2 : Hid (SR w2 b #[.string ⟨D.toArray⟩, .int .i64 s0, .int .i64 2, .bool false, .string ⟨K.toArray⟩, .bool err, .bool out, .bool false, .int .i64 pr, .bool bg, .bool stl]) := Lib.hid (by rw [hw]; exact ((R1.out.set 2 _).set 0 _))
    have FX : Fr [b] w1 w2 := by
      rw [hw]
      repeat (refine Fr.setCell ?_ (.inl (by simp)) _)
      exact Fr.refl _ _
    have N2 := Lib.hid (FX.blk N1.out (by simpa using hgb))
    have F2 := Lib.hid (F1.out.trans FX)
    rw [← hw]
    clear hw FX
    clear d0 d1 d2 d3 d4 d5 d6 d7 d8 d9 d10 f0 f1 f2 f3 f4 f5 f6 f7 f8 f9 f10 e0 e1 e2 e3 e4 e5 e6 e7 e8 e9 e10 e11
    obtain ⟨⟨d0, d1, d2, d3, d4, d5, d6, d7, d8, d9, d10⟩, f0, f1, f2, f3, f4, f5, f6, f7, f8, f9, f10⟩ := R2.out.all
    obtain ⟨e0, e1, e2, e3, e4, e5, e6, e7, e8, e9, e10, e11⟩ := box_all N2.out
    clear d0 d1 d2 d3 d4 d5 d6 d7 d8 d9 d10 f0 f1 f2 f3 f4 f5 f6 f7 f8 f9 f10 e0 e1 e2 e3 e4 e5 e6 e7 e8 e9 e10 e11
    have HQ : Hid (Fr [] w2.drew w2.drew) := Lib.hid (Fr.refl _ _)
    have aq : w2.drew.cell? ⟨b, 0, none⟩ = some _ := cell_of_row w2.drew b 0 _ 94 _ R2.out
    have qq : w2.drew.frozen? ⟨b, 0, none⟩ = false := frozen_of_row w2.drew b 0 _ 94 R2.out
    obtain ⟨-, eq1, eq2, eq3, eq4, eq5, eq6, eq7, eq8, -⟩ := box_all (w := w2.drew) N2.out
    go_region_law (first
      | (go_simp; go_at_call 42; refine (HE1.out _).mono ?_; rintro e w3 ⟨rfl, hf3⟩; have HQ := Lib.hid (HQ.out.trans hf3); have RQ := Lib.hid (R2.out.drew.fr HQ.out (by simp)); have aq := cell_of_row w3 b 0 _ 94 _ RQ.out; have qq := frozen_of_row w3 b 0 _ 94 RQ.out; obtain ⟨-, eq1, eq2, eq3, eq4, eq5, eq6, eq7, eq8, -⟩ := box_all (HQ.out.blk N2.out (by simp)); clear hf3)
      | (go_simp; go_at_call 19; refine (HE2.out _ ((F2.out.drew).trans (HQ.out.sub (by simp)))).mono ?_; rintro e w3 ⟨rfl, hf3⟩; have HQ := Lib.hid (HQ.out.trans hf3); have RQ := Lib.hid (R2.out.drew.fr HQ.out (by simp)); have aq := cell_of_row w3 b 0 _ 94 _ RQ.out; have qq := frozen_of_row w3 b 0 _ 94 RQ.out; obtain ⟨-, eq1, eq2, eq3, eq4, eq5, eq6, eq7, eq8, -⟩ := box_all (HQ.out.blk N2.out (by simp)); clear hf3))
    all_goals
      go_simp
      go_wp2
      go_ret
      exact ⟨rfl, RQ.out.set 0 _, (((F2.out.drew).trans (HQ.out.sub (by simp))).setCell (.inl (by simp)) _)⟩
set_option maxRecDepth 100000 in
set_option maxHeartbeats 100000000 in
theorem spf_2_l_false (op : Int) (b : Nat) (B : List UInt8) (s0 : Nat) (K : List UInt8) (err out : Bool) (pr : Int) (bg : Bool) (key value s : ByteArray) (k vn : Int) (u f : Nat) (x : Bool) (n m : Int) (hB : B.length ≤ 100000000) (w : World) (stl : Bool) (z : Bool) (hop : op = 2 ∨ op = 11) (X1 : List UInt8) (hX1 : X1.length ≤ 4000000) (hE1 : ∀ w, Calls Tryz.prog 42 #[.int .i64 3, .string key] w fun e w' => e = .returned (.string ⟨X1.toArray⟩) ∧ Fr [] w w') (X2 : List UInt8) (hX2 : X2.length ≤ 4000000) (hE2 : ∀ wx, Fr [b] w wx → Calls Tryz.prog 19 #[.agg #[.int .i64 k, .string s, .int .i64 vn, .int .u64 u, .float .f64 f, .bool x]] wx fun e w' => e = .returned (.string ⟨X2.toArray⟩) ∧ Fr [] wx w')
    (h : SR w b #[.string ⟨B.toArray⟩, .int .i64 s0, .int .i64 2, .bool false, .string ⟨K.toArray⟩, .bool err, .bool out, .bool true, .int .i64 pr, .bool bg, .bool stl]) :
    Calls Tryz.prog 52 #[.pointer (some ⟨b, 0, none⟩), .agg #[.int .i64 op, .string key, .string value, .int .i64 k, .string s, .int .i64 vn, .int .u64 u, .float .f64 f, .bool x, .int .i64 n, .int .i64 m, .bool z]] w fun e w' => e = .returned (.bool true) ∧ SR w' b #[.string ⟨((B ++ [44]) ++ ((X1 ++ [61]) ++ X2)).toArray⟩, .int .i64 s0, .int .i64 2, .bool false, .string ⟨K.toArray⟩, .bool err, .bool out, .bool true, .int .i64 pr, .bool bg, .bool stl] ∧ Fr [b] w w' := by
  have HE1 := Lib.hid hE1
  have HE2 := Lib.hid hE2
  clear hE1 hE2
  generalize hD : B ++ ([44] : List UInt8) = D
  have lD : D.length = B.length + 1 := by rw [← hD, List.length_append]; try rfl
  have aD : ∀ w, (Op.stringOp .add ⟨B.toArray⟩ ⟨#[44]⟩).run Tryz.prog w = .ok (.string ⟨D.toArray⟩) w := fun w => by rw [← hD]; exact cat_lists w B ([44] : List UInt8) (by show B.length + 1 ≤ 9223372036854775807; omega)
  generalize hY1 : X1 ++ ([61] : List UInt8) = Y1
  have lY1 : Y1.length = X1.length + 1 := by rw [← hY1, List.length_append]; try rfl
  have aY1 : ∀ w, (Op.stringOp .add ⟨X1.toArray⟩ ⟨#[61]⟩).run Tryz.prog w = .ok (.string ⟨Y1.toArray⟩) w := fun w => by rw [← hY1]; exact cat_lists w X1 ([61] : List UInt8) (by show X1.length + 1 ≤ 9223372036854775807; omega)
  generalize hY2 : Y1 ++ X2 = Y2
  have lY2 : Y2.length = Y1.length + X2.length := by rw [← hY2, List.length_append]; try rfl
  have aY2 : ∀ w, (Op.stringOp .add ⟨Y1.toArray⟩ ⟨X2.toArray⟩).run Tryz.prog w = .ok (.string ⟨Y2.toArray⟩) w := fun w => by rw [← hY2]; exact cat_lists w Y1 X2 (by show Y1.length + X2.length ≤ 9223372036854775807; omega)
  generalize hRES : D ++ Y2 = RES
  have lRES : RES.length = D.length + Y2.length := by rw [← hRES, List.length_append]; try rfl
  have aRES : ∀ w, (Op.stringOp .add ⟨D.toArray⟩ ⟨Y2.toArray⟩).run Tryz.prog w = .ok (.string ⟨RES.toArray⟩) w := fun w => by rw [← hRES]; exact cat_lists w D Y2 (by show D.length + Y2.length ≤ 9223372036854775807; omega)
  clear hD
  clear hY1
  clear hY2
  clear hRES
  obtain ⟨w1, HA, HN, hw1⟩ : ∃ q, Fr [] w q ∧ q.heap[w.heap.size]? = some (.cells #[.int .i64 op, .string key, .string value, .int .i64 k, .string s, .int .i64 vn, .int .u64 u, .float .f64 f, .bool x, .int .i64 n, .int .i64 m, .bool z] 38 (0, 0)) ∧ w.alloc (.cells #[.int .i64 op, .string key, .string value, .int .i64 k, .string s, .int .i64 vn, .int .u64 u, .float .f64 f, .bool x, .int .i64 n, .int .i64 m, .bool z] 38) = q := ⟨_, (Fr.refl [] w).alloc _, heap_alloc_new _ _, rfl⟩
  have hbl : b < w.heap.size := (Array.getElem?_eq_some_iff.1 h).1
  have hbg : ¬ b = w.heap.size := by omega
  have hgb : ¬ w.heap.size = b := by omega
  have R1 := Lib.hid (h.fr HA (by simp))
  have N1 := Lib.hid HN
  have F1 : Hid (Fr [b] w w1) := Lib.hid (HA.sub (by simp))
  have HW := Lib.hid hw1
  clear h hbl HA HN hw1
  rcases hop with rfl | rfl
  all_goals
    go_enter Tryz.func52, Tryz.ntmps52
    go_upto_region 26 with fail
    rw [HW.out]
    clear HW
    obtain ⟨⟨d0, d1, d2, d3, d4, d5, d6, d7, d8, d9, d10⟩, f0, f1, f2, f3, f4, f5, f6, f7, f8, f9, f10⟩ := R1.out.all
    obtain ⟨e0, e1, e2, e3, e4, e5, e6, e7, e8, e9, e10, e11⟩ := box_all N1.out
    go_upto_region 29 with fail
    go_upto_region 30 with fail
    go_upto_region 32 with fail
    go_upto_region 34 with fail
    go_upto_region 37 with fail
    obtain ⟨w2, hw⟩ : ∃ q, q = ((w1).setCell ⟨b, 2, none⟩ (.int .i64 2)).setCell ⟨b, 0, none⟩ (.string ⟨D.toArray⟩) := ⟨_, rfl⟩
    have R2 : Hid (SR w2 b #[.string ⟨D.toArray⟩, .int .i64 s0, .int .i64 2, .bool false, .string ⟨K.toArray⟩, .bool err, .bool out, .bool true, .int .i64 pr, .bool bg, .bool stl]) := Lib.hid (by rw [hw]; exact ((R1.out.set 2 _).set 0 _))
    have FX : Fr [b] w1 w2 := by
      rw [hw]
      repeat (refine Fr.setCell ?_ (.inl (by simp)) _)
      exact Fr.refl _ _
    have N2 := Lib.hid (FX.blk N1.out (by simpa using hgb))
    have F2 := Lib.hid (F1.out.trans FX)
    rw [← hw]
    clear hw FX
    clear d0 d1 d2 d3 d4 d5 d6 d7 d8 d9 d10 f0 f1 f2 f3 f4 f5 f6 f7 f8 f9 f10 e0 e1 e2 e3 e4 e5 e6 e7 e8 e9 e10 e11
    obtain ⟨⟨d0, d1, d2, d3, d4, d5, d6, d7, d8, d9, d10⟩, f0, f1, f2, f3, f4, f5, f6, f7, f8, f9, f10⟩ := R2.out.all
    obtain ⟨e0, e1, e2, e3, e4, e5, e6, e7, e8, e9, e10, e11⟩ := box_all N2.out
    clear d0 d1 d2 d3 d4 d5 d6 d7 d8 d9 d10 f0 f1 f2 f3 f4 f5 f6 f7 f8 f9 f10 e0 e1 e2 e3 e4 e5 e6 e7 e8 e9 e10 e11
    have HQ : Hid (Fr [] w2.drew w2.drew) := Lib.hid (Fr.refl _ _)
    have aq : w2.drew.cell? ⟨b, 0, none⟩ = some _ := cell_of_row w2.drew b 0 _ 94 _ R2.out
    have qq : w2.drew.frozen? ⟨b, 0, none⟩ = false := frozen_of_row w2.drew b 0 _ 94 R2.out
    obtain ⟨-, eq1, eq2, eq3, eq4, eq5, eq6, eq7, eq8, -⟩ := box_all (w := w2.drew) N2.out
    go_region_law (first
      | (go_simp; go_at_call 42; refine (HE1.out _).mono ?_; rintro e w3 ⟨rfl, hf3⟩; have HQ := Lib.hid (HQ.out.trans hf3); have RQ := Lib.hid (R2.out.drew.fr HQ.out (by simp)); have aq := cell_of_row w3 b 0 _ 94 _ RQ.out; have qq := frozen_of_row w3 b 0 _ 94 RQ.out; obtain ⟨-, eq1, eq2, eq3, eq4, eq5, eq6, eq7, eq8, -⟩ := box_all (HQ.out.blk N2.out (by simp)); clear hf3)
      | (go_simp; go_at_call 19; refine (HE2.out _ ((F2.out.drew).trans (HQ.out.sub (by simp)))).mono ?_; rintro e w3 ⟨rfl, hf3⟩; have HQ := Lib.hid (HQ.out.trans hf3); have RQ := Lib.hid (R2.out.drew.fr HQ.out (by simp)); have aq := cell_of_row w3 b 0 _ 94 _ RQ.out; have qq := frozen_of_row w3 b 0 _ 94 RQ.out; obtain ⟨-, eq1, eq2, eq3, eq4, eq5, eq6, eq7, eq8, -⟩ := box_all (HQ.out.blk N2.out (by simp)); clear hf3))
    all_goals
      go_simp
      go_wp2
      go_ret
      exact ⟨rfl, RQ.out.set 0 _, (((F2.out.drew).trans (HQ.out.sub (by simp))).setCell (.inl (by simp)) _)⟩
end Go.Proofs.YtaaogjhaokaggaaGreatDoor
