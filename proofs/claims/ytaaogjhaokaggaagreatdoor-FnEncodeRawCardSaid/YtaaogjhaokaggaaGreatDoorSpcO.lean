import Derived.Test.YtaaogjhaokaggaaGreatDoorSpcF
import Derived.Deep.RegionLaw
import Derived.Deep.CutRange
import Derived.Deep.DeepCutAuto
import Derived.BigQuiet
import Derived.Laws.Concat
namespace Go.Proofs.YtaaogjhaokaggaaGreatDoor
open Go.RowKit

set_option maxRecDepth 100000 in
set_option maxHeartbeats 100000000 in
theorem spe_in_pp_true (b : Nat) (B : List UInt8) (s0 : Nat) (K : List UInt8) (err out : Bool) (pr : Int) (bg : Bool) (key value s : ByteArray) (k vn : Int) (u f : Nat) (x : Bool) (n m : Int) (w : World) (lax : Bool) (stl : Bool) (n0 : ¬ n < 0) (m0 : ¬ m < 0) (hw : wrap64 (n + m) = n + m) (h2 : ¬ n + m < 0)
    (h : SR w b #[.string ⟨B.toArray⟩, .int .i64 s0, .int .i64 2, .bool true, .string ⟨K.toArray⟩, .bool err, .bool out, .bool lax, .int .i64 pr, .bool bg, .bool stl]) :
    Calls Tryz.prog 52 #[.pointer (some ⟨b, 0, none⟩), .agg #[.int .i64 3, .string key, .string value, .int .i64 k, .string s, .int .i64 vn, .int .u64 u, .float .f64 f, .bool x, .int .i64 n, .int .i64 m, .bool false]] w fun e w' => e = .returned (.bool true) ∧ SR w' b #[.string ⟨B.toArray⟩, .int .i64 s0, .int .i64 5, .bool true, .string ⟨K.toArray⟩, .bool err, .bool out, .bool lax, .int .i64 pr, .bool bg, .bool stl] ∧ Fr [b] w w' := by
  obtain ⟨w1, HA, HN, hw1⟩ : ∃ q, Fr [] w q ∧ q.heap[w.heap.size]? = some (.cells #[.int .i64 3, .string key, .string value, .int .i64 k, .string s, .int .i64 vn, .int .u64 u, .float .f64 f, .bool x, .int .i64 n, .int .i64 m, .bool false] 38 (0, 0)) ∧ w.alloc (.cells #[.int .i64 3, .string key, .string value, .int .i64 k, .string s, .int .i64 vn, .int .u64 u, .float .f64 f, .bool x, .int .i64 n, .int .i64 m, .bool false] 38) = q := ⟨_, (Fr.refl [] w).alloc _, heap_alloc_new _ _, rfl⟩
  have hbl : b < w.heap.size := (Array.getElem?_eq_some_iff.1 h).1
  have hbg : ¬ b = w.heap.size := by omega
  have hgb : ¬ w.heap.size = b := by omega
  have R1 := Lib.hid (h.fr HA (by simp))
  have N1 := Lib.hid HN
  have F1 : Hid (Fr [b] w w1) := Lib.hid (HA.sub (by simp))
  have HW := Lib.hid hw1
  clear h hbl HA HN hw1
  go_enter Tryz.func52, Tryz.ntmps52
  go_upto_region 39 with fail
  rw [HW.out]
  clear HW
  obtain ⟨⟨d0, d1, d2, d3, d4, d5, d6, d7, d8, d9, d10⟩, f0, f1, f2, f3, f4, f5, f6, f7, f8, f9, f10⟩ := R1.out.all
  obtain ⟨e0, e1, e2, e3, e4, e5, e6, e7, e8, e9, e10, e11⟩ := box_all N1.out
  go_upto_region 42 with fail
  go_upto_region 46 with fail
  go_upto_region 47 with fail
  go_upto_region 49 with fail
  go_wp2
  go_ret
  refine ⟨rfl, (R1.out.set 2 _), ?_⟩
  repeat (refine Fr.setCell ?_ (.inl (by simp)) _)
  exact F1.out
set_option maxRecDepth 100000 in
set_option maxHeartbeats 100000000 in
theorem spe_in_pp_false (b : Nat) (B : List UInt8) (s0 : Nat) (K : List UInt8) (err out : Bool) (pr : Int) (bg : Bool) (key value s : ByteArray) (k vn : Int) (u f : Nat) (x : Bool) (n m : Int) (hB : B.length ≤ 100000000) (w : World) (lax : Bool) (stl : Bool) (n0 : ¬ n < 0) (m0 : ¬ m < 0) (hw : wrap64 (n + m) = n + m) (h2 : ¬ n + m < 0) (hp0 : ¬ pr = 0) (X : List UInt8) (hX : X.length ≤ 4000000) (hE : ∀ wx, Fr [b] w wx → Calls Tryz.prog 32 #[.int .i64 (IntKind.i64.wrap ((n + m).tdiv pr)), .int .i64 10] wx fun e w' => e = .returned (.string ⟨X.toArray⟩) ∧ Fr [] wx w')
    (h : SR w b #[.string ⟨B.toArray⟩, .int .i64 s0, .int .i64 2, .bool false, .string ⟨K.toArray⟩, .bool err, .bool out, .bool lax, .int .i64 pr, .bool bg, .bool stl]) :
    Calls Tryz.prog 52 #[.pointer (some ⟨b, 0, none⟩), .agg #[.int .i64 3, .string key, .string value, .int .i64 k, .string s, .int .i64 vn, .int .u64 u, .float .f64 f, .bool x, .int .i64 n, .int .i64 m, .bool false]] w fun e w' => e = .returned (.bool true) ∧ SR w' b #[.string ⟨(B ++ (([32] ++ X) ++ [10])).toArray⟩, .int .i64 s0, .int .i64 5, .bool false, .string ⟨K.toArray⟩, .bool err, .bool out, .bool lax, .int .i64 pr, .bool bg, .bool stl] ∧ Fr [b] w w' := by
  have HE := Lib.hid hE
  clear hE
  generalize hY1 : ([32] : List UInt8) ++ X = Y1
  have lY1 : Y1.length = 1 + X.length := by rw [← hY1, List.length_append]; try rfl
  have aY1 : ∀ w, (Op.stringOp .add ⟨#[32]⟩ ⟨X.toArray⟩).run Tryz.prog w = .ok (.string ⟨Y1.toArray⟩) w := fun w => by rw [← hY1]; exact cat_lists w ([32] : List UInt8) X (by show 1 + X.length ≤ 9223372036854775807; omega)
  generalize hY2 : Y1 ++ ([10] : List UInt8) = Y2
  have lY2 : Y2.length = Y1.length + 1 := by rw [← hY2, List.length_append]; try rfl
  have aY2 : ∀ w, (Op.stringOp .add ⟨Y1.toArray⟩ ⟨#[10]⟩).run Tryz.prog w = .ok (.string ⟨Y2.toArray⟩) w := fun w => by rw [← hY2]; exact cat_lists w Y1 ([10] : List UInt8) (by show Y1.length + 1 ≤ 9223372036854775807; omega)
  generalize hRES : B ++ Y2 = RES
  have lRES : RES.length = B.length + Y2.length := by rw [← hRES, List.length_append]; try rfl
  have aRES : ∀ w, (Op.stringOp .add ⟨B.toArray⟩ ⟨Y2.toArray⟩).run Tryz.prog w = .ok (.string ⟨RES.toArray⟩) w := fun w => by rw [← hRES]; exact cat_lists w B Y2 (by show B.length + Y2.length ≤ 9223372036854775807; omega)
  clear hY1
  clear hY2
  clear hRES
  obtain ⟨w1, HA, HN, hw1⟩ : ∃ q, Fr [] w q ∧ q.heap[w.heap.size]? = some (.cells #[.int .i64 3, .string key, .string value, .int .i64 k, .string s, .int .i64 vn, .int .u64 u, .float .f64 f, .bool x, .int .i64 n, .int .i64 m, .bool false] 38 (0, 0)) ∧ w.alloc (.cells #[.int .i64 3, .string key, .string value, .int .i64 k, .string s, .int .i64 vn, .int .u64 u, .float .f64 f, .bool x, .int .i64 n, .int .i64 m, .bool false] 38) = q := ⟨_, (Fr.refl [] w).alloc _, heap_alloc_new _ _, rfl⟩
  have hbl : b < w.heap.size := (Array.getElem?_eq_some_iff.1 h).1
  have hbg : ¬ b = w.heap.size := by omega
  have hgb : ¬ w.heap.size = b := by omega
  have R1 := Lib.hid (h.fr HA (by simp))
  have N1 := Lib.hid HN
  have F1 : Hid (Fr [b] w w1) := Lib.hid (HA.sub (by simp))
  have HW := Lib.hid hw1
  clear h hbl HA HN hw1
  go_enter Tryz.func52, Tryz.ntmps52
  go_upto_region 39 with fail
  rw [HW.out]
  clear HW
  obtain ⟨⟨d0, d1, d2, d3, d4, d5, d6, d7, d8, d9, d10⟩, f0, f1, f2, f3, f4, f5, f6, f7, f8, f9, f10⟩ := R1.out.all
  obtain ⟨e0, e1, e2, e3, e4, e5, e6, e7, e8, e9, e10, e11⟩ := box_all N1.out
  go_upto_region 42 with fail
  go_upto_region 46 with fail
  go_upto_region 47 with fail
  go_upto_region 49 with fail
  go_upto_region 50 with fail
  obtain ⟨w2, hw⟩ : ∃ q, q = (w1).setCell ⟨b, 2, none⟩ (.int .i64 5) := ⟨_, rfl⟩
  have R2 : Hid (SR w2 b #[.string ⟨B.toArray⟩, .int .i64 s0, .int .i64 5, .bool false, .string ⟨K.toArray⟩, .bool err, .bool out, .bool lax, .int .i64 pr, .bool bg, .bool stl]) := Lib.hid (by rw [hw]; exact (R1.out.set 2 _))
  have FX : Fr [b] w1 w2 := by
    rw [hw]
    repeat (refine Fr.setCell ?_ (.inl (by simp)) _)
    exact Fr.refl _ _
  have N2 := Lib.hid (FX.blk N1.out (by simpa using hgb))
  have F2 := Lib.hid (F1.out.trans FX)
  rw [← hw]
  clear hw FX
  clear d0 d1 d2 d3 d4 d5 d6 d7 d8 d9 d10 f0 f1 f2 f3 f4 f5 f6 f7 f8 f9 f10 e0 e1 e2 e3 e4 e5 e6 e7 e8 e9 e10 e11
  obtain ⟨⟨d0, d1, d2, d3, d4, d5, d6, d7, d8, d9, d10⟩, f0, f1, f2, f3, f4, f5, f6, f7, f8, f9, f10⟩ := R2.out.all
  obtain ⟨e0, e1, e2, e3, e4, e5, e6, e7, e8, e9, e10, e11⟩ := box_all N2.out
  have aq8 : w2.drew.cell? ⟨b, 8, none⟩ = some _ := cell_of_row w2.drew b 8 _ 94 _ R2.out
  clear d0 d1 d2 d3 d4 d5 d6 d7 d8 d9 d10 f0 f1 f2 f3 f4 f5 f6 f7 f8 f9 f10 e0 e1 e2 e3 e4 e5 e6 e7 e8 e9 e10 e11
  have HQ : Hid (Fr [] w2.drew w2.drew) := Lib.hid (Fr.refl _ _)
  have aq : w2.drew.cell? ⟨b, 0, none⟩ = some _ := cell_of_row w2.drew b 0 _ 94 _ R2.out
  have qq : w2.drew.frozen? ⟨b, 0, none⟩ = false := frozen_of_row w2.drew b 0 _ 94 R2.out
  obtain ⟨-, eq1, eq2, eq3, eq4, eq5, eq6, eq7, eq8, -⟩ := box_all (w := w2.drew) N2.out
  go_region_law (first
    | (go_simp; go_at_call 32; refine (HE.out _ ((F2.out.drew).trans (HQ.out.sub (by simp)))).mono ?_; rintro e w3 ⟨rfl, hf3⟩; have HQ := Lib.hid (HQ.out.trans hf3); have RQ := Lib.hid (R2.out.drew.fr HQ.out (by simp)); have aq := cell_of_row w3 b 0 _ 94 _ RQ.out; have qq := frozen_of_row w3 b 0 _ 94 RQ.out; have aq8 := cell_of_row w3 b 8 _ 94 _ RQ.out; obtain ⟨-, eq1, eq2, eq3, eq4, eq5, eq6, eq7, eq8, -⟩ := box_all (HQ.out.blk N2.out (by simp)); clear hf3))
  all_goals
    go_simp
    go_wp2
    go_ret
    exact ⟨rfl, RQ.out.set 0 _, (((F2.out.drew).trans (HQ.out.sub (by simp))).setCell (.inl (by simp)) _)⟩
set_option maxRecDepth 100000 in
set_option maxHeartbeats 100000000 in
theorem spe_in_nn_true (b : Nat) (B : List UInt8) (s0 : Nat) (K : List UInt8) (err out : Bool) (pr : Int) (bg : Bool) (key value s : ByteArray) (k vn : Int) (u f : Nat) (x : Bool) (n m : Int) (w : World) (lax : Bool) (stl : Bool) (n0 : n < 0) (m0 : m < 0) (hw : wrap64 (n + m) = n + m) (h2 : n + m < 0)
    (h : SR w b #[.string ⟨B.toArray⟩, .int .i64 s0, .int .i64 2, .bool true, .string ⟨K.toArray⟩, .bool err, .bool out, .bool lax, .int .i64 pr, .bool bg, .bool stl]) :
    Calls Tryz.prog 52 #[.pointer (some ⟨b, 0, none⟩), .agg #[.int .i64 3, .string key, .string value, .int .i64 k, .string s, .int .i64 vn, .int .u64 u, .float .f64 f, .bool x, .int .i64 n, .int .i64 m, .bool false]] w fun e w' => e = .returned (.bool true) ∧ SR w' b #[.string ⟨B.toArray⟩, .int .i64 s0, .int .i64 5, .bool true, .string ⟨K.toArray⟩, .bool err, .bool out, .bool lax, .int .i64 pr, .bool bg, .bool stl] ∧ Fr [b] w w' := by
  obtain ⟨w1, HA, HN, hw1⟩ : ∃ q, Fr [] w q ∧ q.heap[w.heap.size]? = some (.cells #[.int .i64 3, .string key, .string value, .int .i64 k, .string s, .int .i64 vn, .int .u64 u, .float .f64 f, .bool x, .int .i64 n, .int .i64 m, .bool false] 38 (0, 0)) ∧ w.alloc (.cells #[.int .i64 3, .string key, .string value, .int .i64 k, .string s, .int .i64 vn, .int .u64 u, .float .f64 f, .bool x, .int .i64 n, .int .i64 m, .bool false] 38) = q := ⟨_, (Fr.refl [] w).alloc _, heap_alloc_new _ _, rfl⟩
  have hbl : b < w.heap.size := (Array.getElem?_eq_some_iff.1 h).1
  have hbg : ¬ b = w.heap.size := by omega
  have hgb : ¬ w.heap.size = b := by omega
  have R1 := Lib.hid (h.fr HA (by simp))
  have N1 := Lib.hid HN
  have F1 : Hid (Fr [b] w w1) := Lib.hid (HA.sub (by simp))
  have HW := Lib.hid hw1
  clear h hbl HA HN hw1
  go_enter Tryz.func52, Tryz.ntmps52
  go_upto_region 39 with fail
  rw [HW.out]
  clear HW
  obtain ⟨⟨d0, d1, d2, d3, d4, d5, d6, d7, d8, d9, d10⟩, f0, f1, f2, f3, f4, f5, f6, f7, f8, f9, f10⟩ := R1.out.all
  obtain ⟨e0, e1, e2, e3, e4, e5, e6, e7, e8, e9, e10, e11⟩ := box_all N1.out
  go_upto_region 42 with fail
  go_upto_region 46 with fail
  go_upto_region 47 with fail
  go_upto_region 49 with fail
  go_wp2
  go_ret
  refine ⟨rfl, (R1.out.set 2 _), ?_⟩
  repeat (refine Fr.setCell ?_ (.inl (by simp)) _)
  exact F1.out
set_option maxRecDepth 100000 in
set_option maxHeartbeats 100000000 in
theorem spe_in_nn_false (b : Nat) (B : List UInt8) (s0 : Nat) (K : List UInt8) (err out : Bool) (pr : Int) (bg : Bool) (key value s : ByteArray) (k vn : Int) (u f : Nat) (x : Bool) (n m : Int) (hB : B.length ≤ 100000000) (w : World) (lax : Bool) (stl : Bool) (n0 : n < 0) (m0 : m < 0) (hw : wrap64 (n + m) = n + m) (h2 : n + m < 0) (hp0 : ¬ pr = 0) (X : List UInt8) (hX : X.length ≤ 4000000) (hE : ∀ wx, Fr [b] w wx → Calls Tryz.prog 32 #[.int .i64 (IntKind.i64.wrap ((n + m).tdiv pr)), .int .i64 10] wx fun e w' => e = .returned (.string ⟨X.toArray⟩) ∧ Fr [] wx w')
    (h : SR w b #[.string ⟨B.toArray⟩, .int .i64 s0, .int .i64 2, .bool false, .string ⟨K.toArray⟩, .bool err, .bool out, .bool lax, .int .i64 pr, .bool bg, .bool stl]) :
    Calls Tryz.prog 52 #[.pointer (some ⟨b, 0, none⟩), .agg #[.int .i64 3, .string key, .string value, .int .i64 k, .string s, .int .i64 vn, .int .u64 u, .float .f64 f, .bool x, .int .i64 n, .int .i64 m, .bool false]] w fun e w' => e = .returned (.bool true) ∧ SR w' b #[.string ⟨(B ++ (([32] ++ X) ++ [10])).toArray⟩, .int .i64 s0, .int .i64 5, .bool false, .string ⟨K.toArray⟩, .bool err, .bool out, .bool lax, .int .i64 pr, .bool bg, .bool stl] ∧ Fr [b] w w' := by
  have HE := Lib.hid hE
  clear hE
  generalize hY1 : ([32] : List UInt8) ++ X = Y1
  have lY1 : Y1.length = 1 + X.length := by rw [← hY1, List.length_append]; try rfl
  have aY1 : ∀ w, (Op.stringOp .add ⟨#[32]⟩ ⟨X.toArray⟩).run Tryz.prog w = .ok (.string ⟨Y1.toArray⟩) w := fun w => by rw [← hY1]; exact cat_lists w ([32] : List UInt8) X (by show 1 + X.length ≤ 9223372036854775807; omega)
  generalize hY2 : Y1 ++ ([10] : List UInt8) = Y2
  have lY2 : Y2.length = Y1.length + 1 := by rw [← hY2, List.length_append]; try rfl
  have aY2 : ∀ w, (Op.stringOp .add ⟨Y1.toArray⟩ ⟨#[10]⟩).run Tryz.prog w = .ok (.string ⟨Y2.toArray⟩) w := fun w => by rw [← hY2]; exact cat_lists w Y1 ([10] : List UInt8) (by show Y1.length + 1 ≤ 9223372036854775807; omega)
  generalize hRES : B ++ Y2 = RES
  have lRES : RES.length = B.length + Y2.length := by rw [← hRES, List.length_append]; try rfl
  have aRES : ∀ w, (Op.stringOp .add ⟨B.toArray⟩ ⟨Y2.toArray⟩).run Tryz.prog w = .ok (.string ⟨RES.toArray⟩) w := fun w => by rw [← hRES]; exact cat_lists w B Y2 (by show B.length + Y2.length ≤ 9223372036854775807; omega)
  clear hY1
  clear hY2
  clear hRES
  obtain ⟨w1, HA, HN, hw1⟩ : ∃ q, Fr [] w q ∧ q.heap[w.heap.size]? = some (.cells #[.int .i64 3, .string key, .string value, .int .i64 k, .string s, .int .i64 vn, .int .u64 u, .float .f64 f, .bool x, .int .i64 n, .int .i64 m, .bool false] 38 (0, 0)) ∧ w.alloc (.cells #[.int .i64 3, .string key, .string value, .int .i64 k, .string s, .int .i64 vn, .int .u64 u, .float .f64 f, .bool x, .int .i64 n, .int .i64 m, .bool false] 38) = q := ⟨_, (Fr.refl [] w).alloc _, heap_alloc_new _ _, rfl⟩
  have hbl : b < w.heap.size := (Array.getElem?_eq_some_iff.1 h).1
  have hbg : ¬ b = w.heap.size := by omega
  have hgb : ¬ w.heap.size = b := by omega
  have R1 := Lib.hid (h.fr HA (by simp))
  have N1 := Lib.hid HN
  have F1 : Hid (Fr [b] w w1) := Lib.hid (HA.sub (by simp))
  have HW := Lib.hid hw1
  clear h hbl HA HN hw1
  go_enter Tryz.func52, Tryz.ntmps52
  go_upto_region 39 with fail
  rw [HW.out]
  clear HW
  obtain ⟨⟨d0, d1, d2, d3, d4, d5, d6, d7, d8, d9, d10⟩, f0, f1, f2, f3, f4, f5, f6, f7, f8, f9, f10⟩ := R1.out.all
  obtain ⟨e0, e1, e2, e3, e4, e5, e6, e7, e8, e9, e10, e11⟩ := box_all N1.out
  go_upto_region 42 with fail
  go_upto_region 46 with fail
  go_upto_region 47 with fail
  go_upto_region 49 with fail
  go_upto_region 50 with fail
  obtain ⟨w2, hw⟩ : ∃ q, q = (w1).setCell ⟨b, 2, none⟩ (.int .i64 5) := ⟨_, rfl⟩
  have R2 : Hid (SR w2 b #[.string ⟨B.toArray⟩, .int .i64 s0, .int .i64 5, .bool false, .string ⟨K.toArray⟩, .bool err, .bool out, .bool lax, .int .i64 pr, .bool bg, .bool stl]) := Lib.hid (by rw [hw]; exact (R1.out.set 2 _))
  have FX : Fr [b] w1 w2 := by
    rw [hw]
    repeat (refine Fr.setCell ?_ (.inl (by simp)) _)
    exact Fr.refl _ _
  have N2 := Lib.hid (FX.blk N1.out (by simpa using hgb))
  have F2 := Lib.hid (F1.out.trans FX)
  rw [← hw]
  clear hw FX
  clear d0 d1 d2 d3 d4 d5 d6 d7 d8 d9 d10 f0 f1 f2 f3 f4 f5 f6 f7 f8 f9 f10 e0 e1 e2 e3 e4 e5 e6 e7 e8 e9 e10 e11
  obtain ⟨⟨d0, d1, d2, d3, d4, d5, d6, d7, d8, d9, d10⟩, f0, f1, f2, f3, f4, f5, f6, f7, f8, f9, f10⟩ := R2.out.all
  obtain ⟨e0, e1, e2, e3, e4, e5, e6, e7, e8, e9, e10, e11⟩ := box_all N2.out
  have aq8 : w2.drew.cell? ⟨b, 8, none⟩ = some _ := cell_of_row w2.drew b 8 _ 94 _ R2.out
  clear d0 d1 d2 d3 d4 d5 d6 d7 d8 d9 d10 f0 f1 f2 f3 f4 f5 f6 f7 f8 f9 f10 e0 e1 e2 e3 e4 e5 e6 e7 e8 e9 e10 e11
  have HQ : Hid (Fr [] w2.drew w2.drew) := Lib.hid (Fr.refl _ _)
  have aq : w2.drew.cell? ⟨b, 0, none⟩ = some _ := cell_of_row w2.drew b 0 _ 94 _ R2.out
  have qq : w2.drew.frozen? ⟨b, 0, none⟩ = false := frozen_of_row w2.drew b 0 _ 94 R2.out
  obtain ⟨-, eq1, eq2, eq3, eq4, eq5, eq6, eq7, eq8, -⟩ := box_all (w := w2.drew) N2.out
  go_region_law (first
    | (go_simp; go_at_call 32; refine (HE.out _ ((F2.out.drew).trans (HQ.out.sub (by simp)))).mono ?_; rintro e w3 ⟨rfl, hf3⟩; have HQ := Lib.hid (HQ.out.trans hf3); have RQ := Lib.hid (R2.out.drew.fr HQ.out (by simp)); have aq := cell_of_row w3 b 0 _ 94 _ RQ.out; have qq := frozen_of_row w3 b 0 _ 94 RQ.out; have aq8 := cell_of_row w3 b 8 _ 94 _ RQ.out; obtain ⟨-, eq1, eq2, eq3, eq4, eq5, eq6, eq7, eq8, -⟩ := box_all (HQ.out.blk N2.out (by simp)); clear hf3))
  all_goals
    go_simp
    go_wp2
    go_ret
    exact ⟨rfl, RQ.out.set 0 _, (((F2.out.drew).trans (HQ.out.sub (by simp))).setCell (.inl (by simp)) _)⟩
set_option maxRecDepth 100000 in
set_option maxHeartbeats 100000000 in
theorem spe_in_pn_true (b : Nat) (B : List UInt8) (s0 : Nat) (K : List UInt8) (err out : Bool) (pr : Int) (bg : Bool) (key value s : ByteArray) (k vn : Int) (u f : Nat) (x : Bool) (n m : Int) (w : World) (lax : Bool) (stl : Bool) (n0 : ¬ n < 0) (m0 : m < 0) (hw : wrap64 (n + m) = n + m)
    (h : SR w b #[.string ⟨B.toArray⟩, .int .i64 s0, .int .i64 2, .bool true, .string ⟨K.toArray⟩, .bool err, .bool out, .bool lax, .int .i64 pr, .bool bg, .bool stl]) :
    Calls Tryz.prog 52 #[.pointer (some ⟨b, 0, none⟩), .agg #[.int .i64 3, .string key, .string value, .int .i64 k, .string s, .int .i64 vn, .int .u64 u, .float .f64 f, .bool x, .int .i64 n, .int .i64 m, .bool false]] w fun e w' => e = .returned (.bool true) ∧ SR w' b #[.string ⟨B.toArray⟩, .int .i64 s0, .int .i64 5, .bool true, .string ⟨K.toArray⟩, .bool err, .bool out, .bool lax, .int .i64 pr, .bool bg, .bool stl] ∧ Fr [b] w w' := by
  obtain ⟨w1, HA, HN, hw1⟩ : ∃ q, Fr [] w q ∧ q.heap[w.heap.size]? = some (.cells #[.int .i64 3, .string key, .string value, .int .i64 k, .string s, .int .i64 vn, .int .u64 u, .float .f64 f, .bool x, .int .i64 n, .int .i64 m, .bool false] 38 (0, 0)) ∧ w.alloc (.cells #[.int .i64 3, .string key, .string value, .int .i64 k, .string s, .int .i64 vn, .int .u64 u, .float .f64 f, .bool x, .int .i64 n, .int .i64 m, .bool false] 38) = q := ⟨_, (Fr.refl [] w).alloc _, heap_alloc_new _ _, rfl⟩
  have hbl : b < w.heap.size := (Array.getElem?_eq_some_iff.1 h).1
  have hbg : ¬ b = w.heap.size := by omega
  have hgb : ¬ w.heap.size = b := by omega
  have R1 := Lib.hid (h.fr HA (by simp))
  have N1 := Lib.hid HN
  have F1 : Hid (Fr [b] w w1) := Lib.hid (HA.sub (by simp))
  have HW := Lib.hid hw1
  clear h hbl HA HN hw1
  go_enter Tryz.func52, Tryz.ntmps52
  go_upto_region 39 with fail
  rw [HW.out]
  clear HW
  obtain ⟨⟨d0, d1, d2, d3, d4, d5, d6, d7, d8, d9, d10⟩, f0, f1, f2, f3, f4, f5, f6, f7, f8, f9, f10⟩ := R1.out.all
  obtain ⟨e0, e1, e2, e3, e4, e5, e6, e7, e8, e9, e10, e11⟩ := box_all N1.out
  go_upto_region 42 with fail
  go_upto_region 46 with fail
  go_upto_region 47 with fail
  go_upto_region 49 with fail
  go_wp2
  go_ret
  refine ⟨rfl, (R1.out.set 2 _), ?_⟩
  repeat (refine Fr.setCell ?_ (.inl (by simp)) _)
  exact F1.out
set_option maxRecDepth 100000 in
set_option maxHeartbeats 100000000 in
theorem spe_in_pn_false (b : Nat) (B : List UInt8) (s0 : Nat) (K : List UInt8) (err out : Bool) (pr : Int) (bg : Bool) (key value s : ByteArray) (k vn : Int) (u f : Nat) (x : Bool) (n m : Int) (hB : B.length ≤ 100000000) (w : World) (lax : Bool) (stl : Bool) (n0 : ¬ n < 0) (m0 : m < 0) (hw : wrap64 (n + m) = n + m) (hp0 : ¬ pr = 0) (X : List UInt8) (hX : X.length ≤ 4000000) (hE : ∀ wx, Fr [b] w wx → Calls Tryz.prog 32 #[.int .i64 (IntKind.i64.wrap ((n + m).tdiv pr)), .int .i64 10] wx fun e w' => e = .returned (.string ⟨X.toArray⟩) ∧ Fr [] wx w')
    (h : SR w b #[.string ⟨B.toArray⟩, .int .i64 s0, .int .i64 2, .bool false, .string ⟨K.toArray⟩, .bool err, .bool out, .bool lax, .int .i64 pr, .bool bg, .bool stl]) :
    Calls Tryz.prog 52 #[.pointer (some ⟨b, 0, none⟩), .agg #[.int .i64 3, .string key, .string value, .int .i64 k, .string s, .int .i64 vn, .int .u64 u, .float .f64 f, .bool x, .int .i64 n, .int .i64 m, .bool false]] w fun e w' => e = .returned (.bool true) ∧ SR w' b #[.string ⟨(B ++ (([32] ++ X) ++ [10])).toArray⟩, .int .i64 s0, .int .i64 5, .bool false, .string ⟨K.toArray⟩, .bool err, .bool out, .bool lax, .int .i64 pr, .bool bg, .bool stl] ∧ Fr [b] w w' := by
  have HE := Lib.hid hE
  clear hE
  generalize hY1 : ([32] : List UInt8) ++ X = Y1
  have lY1 : Y1.length = 1 + X.length := by rw [← hY1, List.length_append]; try rfl
  have aY1 : ∀ w, (Op.stringOp .add ⟨#[32]⟩ ⟨X.toArray⟩).run Tryz.prog w = .ok (.string ⟨Y1.toArray⟩) w := fun w => by rw [← hY1]; exact cat_lists w ([32] : List UInt8) X (by show 1 + X.length ≤ 9223372036854775807; omega)
  generalize hY2 : Y1 ++ ([10] : List UInt8) = Y2
  have lY2 : Y2.length = Y1.length + 1 := by rw [← hY2, List.length_append]; try rfl
  have aY2 : ∀ w, (Op.stringOp .add ⟨Y1.toArray⟩ ⟨#[10]⟩).run Tryz.prog w = .ok (.string ⟨Y2.toArray⟩) w := fun w => by rw [← hY2]; exact cat_lists w Y1 ([10] : List UInt8) (by show Y1.length + 1 ≤ 9223372036854775807; omega)
  generalize hRES : B ++ Y2 = RES
  have lRES : RES.length = B.length + Y2.length := by rw [← hRES, List.length_append]; try rfl
  have aRES : ∀ w, (Op.stringOp .add ⟨B.toArray⟩ ⟨Y2.toArray⟩).run Tryz.prog w = .ok (.string ⟨RES.toArray⟩) w := fun w => by rw [← hRES]; exact cat_lists w B Y2 (by show B.length + Y2.length ≤ 9223372036854775807; omega)
  clear hY1
  clear hY2
  clear hRES
  obtain ⟨w1, HA, HN, hw1⟩ : ∃ q, Fr [] w q ∧ q.heap[w.heap.size]? = some (.cells #[.int .i64 3, .string key, .string value, .int .i64 k, .string s, .int .i64 vn, .int .u64 u, .float .f64 f, .bool x, .int .i64 n, .int .i64 m, .bool false] 38 (0, 0)) ∧ w.alloc (.cells #[.int .i64 3, .string key, .string value, .int .i64 k, .string s, .int .i64 vn, .int .u64 u, .float .f64 f, .bool x, .int .i64 n, .int .i64 m, .bool false] 38) = q := ⟨_, (Fr.refl [] w).alloc _, heap_alloc_new _ _, rfl⟩
  have hbl : b < w.heap.size := (Array.getElem?_eq_some_iff.1 h).1
  have hbg : ¬ b = w.heap.size := by omega
  have hgb : ¬ w.heap.size = b := by omega
  have R1 := Lib.hid (h.fr HA (by simp))
  have N1 := Lib.hid HN
  have F1 : Hid (Fr [b] w w1) := Lib.hid (HA.sub (by simp))
  have HW := Lib.hid hw1
  clear h hbl HA HN hw1
  go_enter Tryz.func52, Tryz.ntmps52
  go_upto_region 39 with fail
  rw [HW.out]
  clear HW
  obtain ⟨⟨d0, d1, d2, d3, d4, d5, d6, d7, d8, d9, d10⟩, f0, f1, f2, f3, f4, f5, f6, f7, f8, f9, f10⟩ := R1.out.all
  obtain ⟨e0, e1, e2, e3, e4, e5, e6, e7, e8, e9, e10, e11⟩ := box_all N1.out
  go_upto_region 42 with fail
  go_upto_region 46 with fail
  go_upto_region 47 with fail
  go_upto_region 49 with fail
  go_upto_region 50 with fail
  obtain ⟨w2, hw⟩ : ∃ q, q = (w1).setCell ⟨b, 2, none⟩ (.int .i64 5) := ⟨_, rfl⟩
  have R2 : Hid (SR w2 b #[.string ⟨B.toArray⟩, .int .i64 s0, .int .i64 5, .bool false, .string ⟨K.toArray⟩, .bool err, .bool out, .bool lax, .int .i64 pr, .bool bg, .bool stl]) := Lib.hid (by rw [hw]; exact (R1.out.set 2 _))
  have FX : Fr [b] w1 w2 := by
    rw [hw]
    repeat (refine Fr.setCell ?_ (.inl (by simp)) _)
    exact Fr.refl _ _
  have N2 := Lib.hid (FX.blk N1.out (by simpa using hgb))
  have F2 := Lib.hid (F1.out.trans FX)
  rw [← hw]
  clear hw FX
  clear d0 d1 d2 d3 d4 d5 d6 d7 d8 d9 d10 f0 f1 f2 f3 f4 f5 f6 f7 f8 f9 f10 e0 e1 e2 e3 e4 e5 e6 e7 e8 e9 e10 e11
  obtain ⟨⟨d0, d1, d2, d3, d4, d5, d6, d7, d8, d9, d10⟩, f0, f1, f2, f3, f4, f5, f6, f7, f8, f9, f10⟩ := R2.out.all
  obtain ⟨e0, e1, e2, e3, e4, e5, e6, e7, e8, e9, e10, e11⟩ := box_all N2.out
  have aq8 : w2.drew.cell? ⟨b, 8, none⟩ = some _ := cell_of_row w2.drew b 8 _ 94 _ R2.out
  clear d0 d1 d2 d3 d4 d5 d6 d7 d8 d9 d10 f0 f1 f2 f3 f4 f5 f6 f7 f8 f9 f10 e0 e1 e2 e3 e4 e5 e6 e7 e8 e9 e10 e11
  have HQ : Hid (Fr [] w2.drew w2.drew) := Lib.hid (Fr.refl _ _)
  have aq : w2.drew.cell? ⟨b, 0, none⟩ = some _ := cell_of_row w2.drew b 0 _ 94 _ R2.out
  have qq : w2.drew.frozen? ⟨b, 0, none⟩ = false := frozen_of_row w2.drew b 0 _ 94 R2.out
  obtain ⟨-, eq1, eq2, eq3, eq4, eq5, eq6, eq7, eq8, -⟩ := box_all (w := w2.drew) N2.out
  go_region_law (first
    | (go_simp; go_at_call 32; refine (HE.out _ ((F2.out.drew).trans (HQ.out.sub (by simp)))).mono ?_; rintro e w3 ⟨rfl, hf3⟩; have HQ := Lib.hid (HQ.out.trans hf3); have RQ := Lib.hid (R2.out.drew.fr HQ.out (by simp)); have aq := cell_of_row w3 b 0 _ 94 _ RQ.out; have qq := frozen_of_row w3 b 0 _ 94 RQ.out; have aq8 := cell_of_row w3 b 8 _ 94 _ RQ.out; obtain ⟨-, eq1, eq2, eq3, eq4, eq5, eq6, eq7, eq8, -⟩ := box_all (HQ.out.blk N2.out (by simp)); clear hf3))
  all_goals
    go_simp
    go_wp2
    go_ret
    exact ⟨rfl, RQ.out.set 0 _, (((F2.out.drew).trans (HQ.out.sub (by simp))).setCell (.inl (by simp)) _)⟩
set_option maxRecDepth 100000 in
set_option maxHeartbeats 100000000 in
theorem spe_in_np_true (b : Nat) (B : List UInt8) (s0 : Nat) (K : List UInt8) (err out : Bool) (pr : Int) (bg : Bool) (key value s : ByteArray) (k vn : Int) (u f : Nat) (x : Bool) (n m : Int) (w : World) (lax : Bool) (stl : Bool) (n0 : n < 0) (m0 : ¬ m < 0) (hw : wrap64 (n + m) = n + m)
    (h : SR w b #[.string ⟨B.toArray⟩, .int .i64 s0, .int .i64 2, .bool true, .string ⟨K.toArray⟩, .bool err, .bool out, .bool lax, .int .i64 pr, .bool bg, .bool stl]) :
    Calls Tryz.prog 52 #[.pointer (some ⟨b, 0, none⟩), .agg #[.int .i64 3, .string key, .string value, .int .i64 k, .string s, .int .i64 vn, .int .u64 u, .float .f64 f, .bool x, .int .i64 n, .int .i64 m, .bool false]] w fun e w' => e = .returned (.bool true) ∧ SR w' b #[.string ⟨B.toArray⟩, .int .i64 s0, .int .i64 5, .bool true, .string ⟨K.toArray⟩, .bool err, .bool out, .bool lax, .int .i64 pr, .bool bg, .bool stl] ∧ Fr [b] w w' := by
  obtain ⟨w1, HA, HN, hw1⟩ : ∃ q, Fr [] w q ∧ q.heap[w.heap.size]? = some (.cells #[.int .i64 3, .string key, .string value, .int .i64 k, .string s, .int .i64 vn, .int .u64 u, .float .f64 f, .bool x, .int .i64 n, .int .i64 m, .bool false] 38 (0, 0)) ∧ w.alloc (.cells #[.int .i64 3, .string key, .string value, .int .i64 k, .string s, .int .i64 vn, .int .u64 u, .float .f64 f, .bool x, .int .i64 n, .int .i64 m, .bool false] 38) = q := ⟨_, (Fr.refl [] w).alloc _, heap_alloc_new _ _, rfl⟩
  have hbl : b < w.heap.size := (Array.getElem?_eq_some_iff.1 h).1
  have hbg : ¬ b = w.heap.size := by omega
  have hgb : ¬ w.heap.size = b := by omega
  have R1 := Lib.hid (h.fr HA (by simp))
  have N1 := Lib.hid HN
  have F1 : Hid (Fr [b] w w1) := Lib.hid (HA.sub (by simp))
  have HW := Lib.hid hw1
  clear h hbl HA HN hw1
  go_enter Tryz.func52, Tryz.ntmps52
  go_upto_region 39 with fail
  rw [HW.out]
  clear HW
  obtain ⟨⟨d0, d1, d2, d3, d4, d5, d6, d7, d8, d9, d10⟩, f0, f1, f2, f3, f4, f5, f6, f7, f8, f9, f10⟩ := R1.out.all
  obtain ⟨e0, e1, e2, e3, e4, e5, e6, e7, e8, e9, e10, e11⟩ := box_all N1.out
  go_upto_region 42 with fail
  go_upto_region 46 with fail
  go_upto_region 47 with fail
  go_upto_region 49 with fail
  go_wp2
  go_ret
  refine ⟨rfl, (R1.out.set 2 _), ?_⟩
  repeat (refine Fr.setCell ?_ (.inl (by simp)) _)
  exact F1.out
set_option maxRecDepth 100000 in
set_option maxHeartbeats 100000000 in
theorem spe_in_np_false (b : Nat) (B : List UInt8) (s0 : Nat) (K : List UInt8) (err out : Bool) (pr : Int) (bg : Bool) (key value s : ByteArray) (k vn : Int) (u f : Nat) (x : Bool) (n m : Int) (hB : B.length ≤ 100000000) (w : World) (lax : Bool) (stl : Bool) (n0 : n < 0) (m0 : ¬ m < 0) (hw : wrap64 (n + m) = n + m) (hp0 : ¬ pr = 0) (X : List UInt8) (hX : X.length ≤ 4000000) (hE : ∀ wx, Fr [b] w wx → Calls Tryz.prog 32 #[.int .i64 (IntKind.i64.wrap ((n + m).tdiv pr)), .int .i64 10] wx fun e w' => e = .returned (.string ⟨X.toArray⟩) ∧ Fr [] wx w')
    (h : SR w b #[.string ⟨B.toArray⟩, .int .i64 s0, .int .i64 2, .bool false, .string ⟨K.toArray⟩, .bool err, .bool out, .bool lax, .int .i64 pr, .bool bg, .bool stl]) :
    Calls Tryz.prog 52 #[.pointer (some ⟨b, 0, none⟩), .agg #[.int .i64 3, .string key, .string value, .int .i64 k, .string s, .int .i64 vn, .int .u64 u, .float .f64 f, .bool x, .int .i64 n, .int .i64 m, .bool false]] w fun e w' => e = .returned (.bool true) ∧ SR w' b #[.string ⟨(B ++ (([32] ++ X) ++ [10])).toArray⟩, .int .i64 s0, .int .i64 5, .bool false, .string ⟨K.toArray⟩, .bool err, .bool out, .bool lax, .int .i64 pr, .bool bg, .bool stl] ∧ Fr [b] w w' := by
  have HE := Lib.hid hE
  clear hE
  generalize hY1 : ([32] : List UInt8) ++ X = Y1
  have lY1 : Y1.length = 1 + X.length := by rw [← hY1, List.length_append]; try rfl
  have aY1 : ∀ w, (Op.stringOp .add ⟨#[32]⟩ ⟨X.toArray⟩).run Tryz.prog w = .ok (.string ⟨Y1.toArray⟩) w := fun w => by rw [← hY1]; exact cat_lists w ([32] : List UInt8) X (by show 1 + X.length ≤ 9223372036854775807; omega)
  generalize hY2 : Y1 ++ ([10] : List UInt8) = Y2
  have lY2 : Y2.length = Y1.length + 1 := by rw [← hY2, List.length_append]; try rfl
  have aY2 : ∀ w, (Op.stringOp .add ⟨Y1.toArray⟩ ⟨#[10]⟩).run Tryz.prog w = .ok (.string ⟨Y2.toArray⟩) w := fun w => by rw [← hY2]; exact cat_lists w Y1 ([10] : List UInt8) (by show Y1.length + 1 ≤ 9223372036854775807; omega)
  generalize hRES : B ++ Y2 = RES
  have lRES : RES.length = B.length + Y2.length := by rw [← hRES, List.length_append]; try rfl
  have aRES : ∀ w, (Op.stringOp .add ⟨B.toArray⟩ ⟨Y2.toArray⟩).run Tryz.prog w = .ok (.string ⟨RES.toArray⟩) w := fun w => by rw [← hRES]; exact cat_lists w B Y2 (by show B.length + Y2.length ≤ 9223372036854775807; omega)
  clear hY1
  clear hY2
  clear hRES
  obtain ⟨w1, HA, HN, hw1⟩ : ∃ q, Fr [] w q ∧ q.heap[w.heap.size]? = some (.cells #[.int .i64 3, .string key, .string value, .int .i64 k, .string s, .int .i64 vn, .int .u64 u, .float .f64 f, .bool x, .int .i64 n, .int .i64 m, .bool false] 38 (0, 0)) ∧ w.alloc (.cells #[.int .i64 3, .string key, .string value, .int .i64 k, .string s, .int .i64 vn, .int .u64 u, .float .f64 f, .bool x, .int .i64 n, .int .i64 m, .bool false] 38) = q := ⟨_, (Fr.refl [] w).alloc _, heap_alloc_new _ _, rfl⟩
  have hbl : b < w.heap.size := (Array.getElem?_eq_some_iff.1 h).1
  have hbg : ¬ b = w.heap.size := by omega
  have hgb : ¬ w.heap.size = b := by omega
  have R1 := Lib.hid (h.fr HA (by simp))
  have N1 := Lib.hid HN
  have F1 : Hid (Fr [b] w w1) := Lib.hid (HA.sub (by simp))
  have HW := Lib.hid hw1
  clear h hbl HA HN hw1
  go_enter Tryz.func52, Tryz.ntmps52
  go_upto_region 39 with fail
  rw [HW.out]
  clear HW
  obtain ⟨⟨d0, d1, d2, d3, d4, d5, d6, d7, d8, d9, d10⟩, f0, f1, f2, f3, f4, f5, f6, f7, f8, f9, f10⟩ := R1.out.all
  obtain ⟨e0, e1, e2, e3, e4, e5, e6, e7, e8, e9, e10, e11⟩ := box_all N1.out
  go_upto_region 42 with fail
  go_upto_region 46 with fail
  go_upto_region 47 with fail
  go_upto_region 49 with fail
  go_upto_region 50 with fail
  obtain ⟨w2, hw⟩ : ∃ q, q = (w1).setCell ⟨b, 2, none⟩ (.int .i64 5) := ⟨_, rfl⟩
  have R2 : Hid (SR w2 b #[.string ⟨B.toArray⟩, .int .i64 s0, .int .i64 5, .bool false, .string ⟨K.toArray⟩, .bool err, .bool out, .bool lax, .int .i64 pr, .bool bg, .bool stl]) := Lib.hid (by rw [hw]; exact (R1.out.set 2 _))
  have FX : Fr [b] w1 w2 := by
    rw [hw]
    repeat (refine Fr.setCell ?_ (.inl (by simp)) _)
    exact Fr.refl _ _
  have N2 := Lib.hid (FX.blk N1.out (by simpa using hgb))
  have F2 := Lib.hid (F1.out.trans FX)
  rw [← hw]
  clear hw FX
  clear d0 d1 d2 d3 d4 d5 d6 d7 d8 d9 d10 f0 f1 f2 f3 f4 f5 f6 f7 f8 f9 f10 e0 e1 e2 e3 e4 e5 e6 e7 e8 e9 e10 e11
  obtain ⟨⟨d0, d1, d2, d3, d4, d5, d6, d7, d8, d9, d10⟩, f0, f1, f2, f3, f4, f5, f6, f7, f8, f9, f10⟩ := R2.out.all
  obtain ⟨e0, e1, e2, e3, e4, e5, e6, e7, e8, e9, e10, e11⟩ := box_all N2.out
  have aq8 : w2.drew.cell? ⟨b, 8, none⟩ = some _ := cell_of_row w2.drew b 8 _ 94 _ R2.out
  clear d0 d1 d2 d3 d4 d5 d6 d7 d8 d9 d10 f0 f1 f2 f3 f4 f5 f6 f7 f8 f9 f10 e0 e1 e2 e3 e4 e5 e6 e7 e8 e9 e10 e11
  have HQ : Hid (Fr [] w2.drew w2.drew) := Lib.hid (Fr.refl _ _)
  have aq : w2.drew.cell? ⟨b, 0, none⟩ = some _ := cell_of_row w2.drew b 0 _ 94 _ R2.out
  have qq : w2.drew.frozen? ⟨b, 0, none⟩ = false := frozen_of_row w2.drew b 0 _ 94 R2.out
  obtain ⟨-, eq1, eq2, eq3, eq4, eq5, eq6, eq7, eq8, -⟩ := box_all (w := w2.drew) N2.out
  go_region_law (first
    | (go_simp; go_at_call 32; refine (HE.out _ ((F2.out.drew).trans (HQ.out.sub (by simp)))).mono ?_; rintro e w3 ⟨rfl, hf3⟩; have HQ := Lib.hid (HQ.out.trans hf3); have RQ := Lib.hid (R2.out.drew.fr HQ.out (by simp)); have aq := cell_of_row w3 b 0 _ 94 _ RQ.out; have qq := frozen_of_row w3 b 0 _ 94 RQ.out; have aq8 := cell_of_row w3 b 8 _ 94 _ RQ.out; obtain ⟨-, eq1, eq2, eq3, eq4, eq5, eq6, eq7, eq8, -⟩ := box_all (HQ.out.blk N2.out (by simp)); clear hf3))
  all_goals
    go_simp
    go_wp2
    go_ret
    exact ⟨rfl, RQ.out.set 0 _, (((F2.out.drew).trans (HQ.out.sub (by simp))).setCell (.inl (by simp)) _)⟩
end Go.Proofs.YtaaogjhaokaggaaGreatDoor
