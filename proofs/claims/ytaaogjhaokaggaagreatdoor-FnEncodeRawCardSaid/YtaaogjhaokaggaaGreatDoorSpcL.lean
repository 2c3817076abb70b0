import Derived.Test.YtaaogjhaokaggaaGreatDoorSpcF
import Derived.Deep.RegionLaw
import Derived.Deep.CutRange
import Derived.Deep.DeepCutAuto
import Derived.BigQuiet
import Derived.Laws.Concat
namespace Go.Proofs.YtaaogjhaokaggaaGreatDoor
open Go.RowKit

set_option maxRecDepth 100000 in
set_option maxHeartbeats 100000000 in
theorem spl_stale (op : Int) (b : Nat) (B : List UInt8) (s0 : Nat) (K : List UInt8) (err out : Bool) (pr : Int) (bg : Bool) (key value s : ByteArray) (k vn : Int) (u f : Nat) (x : Bool) (n m : Int) (w : World) (lax : Bool) (bad : Bool) (z : Bool) (hop : op = 0 ∨ op = 9)
    (h : SR w b #[.string ⟨B.toArray⟩, .int .i64 s0, .int .i64 1, .bool bad, .string ⟨K.toArray⟩, .bool err, .bool out, .bool lax, .int .i64 pr, .bool bg, .bool true]) :
    Calls Tryz.prog 52 #[.pointer (some ⟨b, 0, none⟩), .agg #[.int .i64 op, .string key, .string value, .int .i64 k, .string s, .int .i64 vn, .int .u64 u, .float .f64 f, .bool x, .int .i64 n, .int .i64 m, .bool z]] w fun e w' => e = .returned (.bool false) ∧ Fr [b] w w' := by
  obtain ⟨w1, HA, HN, hw1⟩ : ∃ q, Fr [] w q ∧ q.heap[w.heap.size]? = some (.cells #[.int .i64 op, .string key, .string value, .int .i64 k, .string s, .int .i64 vn, .int .u64 u, .float .f64 f, .bool x, .int .i64 n, .int .i64 m, .bool z] 38 (0, 0)) ∧ w.alloc (.cells #[.int .i64 op, .string key, .string value, .int .i64 k, .string s, .int .i64 vn, .int .u64 u, .float .f64 f, .bool x, .int .i64 n, .int .i64 m, .bool z] 38) = q := ⟨_, (Fr.refl [] w).alloc _, heap_alloc_new _ _, rfl⟩
  have hbl : b < w.heap.size := (Array.getElem?_eq_some_iff.1 h).1
  have hbg : ¬ b = w.heap.size := by omega
  have hgb : ¬ w.heap.size = b := by omega
  have R1 := Lib.hid (h.fr HA (by simp))
  have N1 := Lib.hid HN
  have F1 : Hid (Fr [b] w w1) := Lib.hid (HA.sub (by simp))
  have HW := Lib.hid hw1
  clear h hbl HA HN hw1
  rcases hop with rfl | rfl
  all_goals
    go_enter Tryz.func52, Tryz.ntmps52
    go_upto_region 4 with fail
    rw [HW.out]
    clear HW
    obtain ⟨⟨d0, d1, d2, d3, d4, d5, d6, d7, d8, d9, d10⟩, f0, f1, f2, f3, f4, f5, f6, f7, f8, f9, f10⟩ := R1.out.all
    obtain ⟨e0, e1, e2, e3, e4, e5, e6, e7, e8, e9, e10, e11⟩ := box_all N1.out
    go_upto_region 5 with fail
    go_upto_region 6 with fail
    go_wp2_with (go_at_call 92; refine (fails_stale b _ _ _ _ _ _ _ _ _ _ _ _ (R1.out.set 2 _)).mono ?_; rintro e wk ⟨rfl, rfl⟩)
    go_ret
    refine ⟨rfl, ?_⟩
    repeat (refine Fr.setCell ?_ (.inl (by simp)) _)
    exact F1.out
set_option maxRecDepth 100000 in
set_option maxHeartbeats 100000000 in
theorem spl_a_fail (op : Int) (b : Nat) (B : List UInt8) (s0 : Nat) (K : List UInt8) (err out : Bool) (pr : Int) (bg : Bool) (key value s : ByteArray) (k vn : Int) (u f : Nat) (x : Bool) (n m : Int) (hB : B.length ≤ 100000000) (w : World) (bad : Bool) (z : Bool) (hop : op = 0 ∨ op = 9) (hs : s0 ≤ B.length) (hK : ∀ w, Calls Tryz.prog 29 #[.string key] w fun e w' => e = .returned (.bool false) ∧ w' = w)
    (h : SR w b #[.string ⟨B.toArray⟩, .int .i64 s0, .int .i64 1, .bool bad, .string ⟨K.toArray⟩, .bool err, .bool out, .bool false, .int .i64 pr, .bool bg, .bool false]) :
    Calls Tryz.prog 52 #[.pointer (some ⟨b, 0, none⟩), .agg #[.int .i64 op, .string key, .string value, .int .i64 k, .string s, .int .i64 vn, .int .u64 u, .float .f64 f, .bool x, .int .i64 n, .int .i64 m, .bool z]] w fun e w' => e = .returned (.bool true) ∧ SR w' b (failRow (B.take s0) (B.take s0).length (if B.take s0 = [] then (0 : Int) else 1) (.string ⟨#[]⟩) true (if err = true then out else false) false (.bool false) (.int .i64 pr) (.bool true)) ∧ Fr [b] w w' := by
  have HK := Lib.hid hK
  clear hK
  have hF := fun w h => fails_any b B s0 hs 1 bad (.string ⟨K.toArray⟩) err out false (.bool false) (.int .i64 pr) (.bool bg) w h
  unfold failRow at hF
  have hC : (B.take s0).length ≤ 100000000 := by rw [List.length_take]; omega
  clear hs
  generalize B.take s0 = C at hF hC ⊢
  generalize (if C = [] then (0 : Int) else 1) = pq at hF ⊢
  generalize (if err = true then out else false) = oo at hF ⊢
  have HFL := Lib.hid hF
  clear hF
  obtain ⟨w1, HA, HN, hw1⟩ : ∃ q, Fr [] w q ∧ q.heap[w.heap.size]? = some (.cells #[.int .i64 op, .string key, .string value, .int .i64 k, .string s, .int .i64 vn, .int .u64 u, .float .f64 f, .bool x, .int .i64 n, .int .i64 m, .bool z] 38 (0, 0)) ∧ w.alloc (.cells #[.int .i64 op, .string key, .string value, .int .i64 k, .string s, .int .i64 vn, .int .u64 u, .float .f64 f, .bool x, .int .i64 n, .int .i64 m, .bool z] 38) = q := ⟨_, (Fr.refl [] w).alloc _, heap_alloc_new _ _, rfl⟩
  have hbl : b < w.heap.size := (Array.getElem?_eq_some_iff.1 h).1
  have hbg : ¬ b = w.heap.size := by omega
  have hgb : ¬ w.heap.size = b := by omega
  have R1 := Lib.hid (h.fr HA (by simp))
  have N1 := Lib.hid HN
  have F1 : Hid (Fr [b] w w1) := Lib.hid (HA.sub (by simp))
  have HW := Lib.hid hw1
  clear h hbl HA HN hw1
  rcases hop with rfl | rfl
  all_goals
    go_enter Tryz.func52, Tryz.ntmps52
    go_upto_region 4 with fail
    rw [HW.out]
    clear HW
    obtain ⟨⟨d0, d1, d2, d3, d4, d5, d6, d7, d8, d9, d10⟩, f0, f1, f2, f3, f4, f5, f6, f7, f8, f9, f10⟩ := R1.out.all
    obtain ⟨e0, e1, e2, e3, e4, e5, e6, e7, e8, e9, e10, e11⟩ := box_all N1.out
    go_upto_region 5 with fail
    go_upto_region 6 with fail
    go_upto_region 8 with (go_at_call 92; refine (HFL.out _ (R1.out.set 2 _)).mono ?_; rintro e w2 ⟨rfl, hr, hf⟩; have R2 := Lib.hid hr; have HF := Lib.hid hf; clear hr hf)
    have FY : Fr [b] w w2 := Fr.trans (by
      repeat (refine Fr.setCell ?_ (.inl (by simp)) _)
      exact F1.out) HF.out
    have N2 := Lib.hid ((Fr.trans (by
      show Fr [b] w1 _
      repeat (refine Fr.setCell ?_ (.inl (by simp)) _)
      exact Fr.refl _ _) HF.out).blk N1.out (by simpa using hgb))
    have F2 := Lib.hid FY
    clear FY
    clear d0 d1 d2 d3 d4 d5 d6 d7 d8 d9 d10 f0 f1 f2 f3 f4 f5 f6 f7 f8 f9 f10 e0 e1 e2 e3 e4 e5 e6 e7 e8 e9 e10 e11
    obtain ⟨⟨d0, d1, d2, d3, d4, d5, d6, d7, d8, d9, d10⟩, f0, f1, f2, f3, f4, f5, f6, f7, f8, f9, f10⟩ := R2.out.all
    obtain ⟨e0, e1, e2, e3, e4, e5, e6, e7, e8, e9, e10, e11⟩ := box_all N2.out
    go_upto_region 9 with fail
    go_upto_region 10 with (go_at_call 29; refine (HK.out _).mono ?_; rintro e wz ⟨rfl, rfl⟩)
    go_wp2_with (go_at_call 92; refine (fails_any b C C.length (Nat.le_refl _) pq false (.string ⟨#[]⟩) true oo false (.bool false) (.int .i64 pr) (.bool true) _ (((((R2.out.set 4 _).set 1 _).set 3 _).set 9 _).set 10 _)).mono ?_; rintro e wk ⟨rfl, hr, hf⟩; have HR := Lib.hid hr; have HF := Lib.hid hf; clear hr hf)
    go_ret
    refine ⟨rfl, HR.out, Fr.trans ?_ HF.out⟩
    repeat (refine Fr.setCell ?_ (.inl (by simp)) _)
    exact F2.out
set_option maxRecDepth 100000 in
set_option maxHeartbeats 100000000 in
theorem spl_a_lax (op : Int) (b : Nat) (B : List UInt8) (s0 : Nat) (K : List UInt8) (err out : Bool) (pr : Int) (bg : Bool) (key value s : ByteArray) (k vn : Int) (u f : Nat) (x : Bool) (n m : Int) (hB : B.length ≤ 100000000) (w : World) (bad : Bool) (z : Bool) (hop : op = 0 ∨ op = 9) (hs : s0 ≤ B.length) (X : List UInt8) (hX : X.length ≤ 1000000) (hE : ∀ w, Calls Tryz.prog 42 #[.int .i64 0, .string key] w fun e w' => e = .returned (.string ⟨X.toArray⟩) ∧ Fr [] w w')
    (h : SR w b #[.string ⟨B.toArray⟩, .int .i64 s0, .int .i64 1, .bool bad, .string ⟨K.toArray⟩, .bool err, .bool out, .bool true, .int .i64 pr, .bool bg, .bool false]) :
    Calls Tryz.prog 52 #[.pointer (some ⟨b, 0, none⟩), .agg #[.int .i64 op, .string key, .string value, .int .i64 k, .string s, .int .i64 vn, .int .u64 u, .float .f64 f, .bool x, .int .i64 n, .int .i64 m, .bool z]] w fun e w' => e = .returned (.bool true) ∧ SR w' b #[.string ⟨(((B.take s0) ++ [10]) ++ X).toArray⟩, .int .i64 ((B.take s0).length : Nat), .int .i64 (if B.take s0 = [] then (0 : Int) else 1), .bool false, .string ⟨#[]⟩, .bool true, .bool (if err = true then out else false), .bool true, .int .i64 pr, .bool true, .bool false] ∧ Fr [b] w w' := by
  have HE := Lib.hid hE
  clear hE
  have hF := fun w h => fails_any b B s0 hs 1 bad (.string ⟨K.toArray⟩) err out false (.bool true) (.int .i64 pr) (.bool bg) w h
  unfold failRow at hF
  have hC : (B.take s0).length ≤ 100000000 := by rw [List.length_take]; omega
  clear hs
  generalize B.take s0 = C at hF hC ⊢
  generalize (if C = [] then (0 : Int) else 1) = pq at hF ⊢
  generalize (if err = true then out else false) = oo at hF ⊢
  have HFL := Lib.hid hF
  clear hF
  generalize hD : C ++ [10] = D
  have hDl : D.length ≤ 100000001 := by rw [← hD, List.length_append, List.length_singleton]; omega
  have HD := Lib.hid hD; clear hD
  generalize hR : D ++ X = RES
  have hadd : ∀ w, (Op.stringOp .add ⟨D.toArray⟩ ⟨X.toArray⟩).run Tryz.prog w = .ok (.string ⟨RES.toArray⟩) w := fun w => by rw [← hR]; exact cat_lists w D X (by omega)
  clear hR
  obtain ⟨w1, HA, HN, hw1⟩ : ∃ q, Fr [] w q ∧ q.heap[w.heap.size]? = some (.cells #[.int .i64 op, .string key, .string value, .int .i64 k, .string s, .int .i64 vn, .int .u64 u, .float .f64 f, .bool x, .int .i64 n, .int .i64 m, .bool z] 38 (0, 0)) ∧ w.alloc (.cells #[.int .i64 op, .string key, .string value, .int .i64 k, .string s, .int .i64 vn, .int .u64 u, .float .f64 f, .bool x, .int .i64 n, .int .i64 m, .bool z] 38) = q := ⟨_, (Fr.refl [] w).alloc _, heap_alloc_new _ _, rfl⟩
  have hbl : b < w.heap.size := (Array.getElem?_eq_some_iff.1 h).1
  have hbg : ¬ b = w.heap.size := by omega
  have hgb : ¬ w.heap.size = b := by omega
  have R1 := Lib.hid (h.fr HA (by simp))
  have N1 := Lib.hid HN
  have F1 : Hid (Fr [b] w w1) := Lib.hid (HA.sub (by simp))
  have HW := Lib.hid hw1
  clear h hbl HA HN hw1
  rcases hop with rfl | rfl
  all_goals
    go_enter Tryz.func52, Tryz.ntmps52
    go_upto_region 4 with fail
    rw [HW.out]
    clear HW
    obtain ⟨⟨d0, d1, d2, d3, d4, d5, d6, d7, d8, d9, d10⟩, f0, f1, f2, f3, f4, f5, f6, f7, f8, f9, f10⟩ := R1.out.all
    obtain ⟨e0, e1, e2, e3, e4, e5, e6, e7, e8, e9, e10, e11⟩ := box_all N1.out
    go_upto_region 5 with fail
    go_upto_region 6 with fail
    go_upto_region 8 with (go_at_call 92; refine (HFL.out _ (R1.out.set 2 _)).mono ?_; rintro e w2 ⟨rfl, hr, hf⟩; have R2 := Lib.hid hr; have HF := Lib.hid hf; clear hr hf)
    have FY : Fr [b] w w2 := Fr.trans (by
      repeat (refine Fr.setCell ?_ (.inl (by simp)) _)
      exact F1.out) HF.out
    have N2 := Lib.hid ((Fr.trans (by
      show Fr [b] w1 _
      repeat (refine Fr.setCell ?_ (.inl (by simp)) _)
      exact Fr.refl _ _) HF.out).blk N1.out (by simpa using hgb))
    have F2 := Lib.hid FY
    clear FY
    clear d0 d1 d2 d3 d4 d5 d6 d7 d8 d9 d10 f0 f1 f2 f3 f4 f5 f6 f7 f8 f9 f10 e0 e1 e2 e3 e4 e5 e6 e7 e8 e9 e10 e11
    obtain ⟨⟨d0, d1, d2, d3, d4, d5, d6, d7, d8, d9, d10⟩, f0, f1, f2, f3, f4, f5, f6, f7, f8, f9, f10⟩ := R2.out.all
    obtain ⟨e0, e1, e2, e3, e4, e5, e6, e7, e8, e9, e10, e11⟩ := box_all N2.out
    go_upto_region 9 with fail
    go_upto_region 11 with fail
    obtain ⟨w3, hw⟩ : ∃ q, q = (((((w2).setCell ⟨b, 4, none⟩ (.string ⟨#[]⟩)).setCell ⟨b, 1, none⟩ (.int .i64 C.length)).setCell ⟨b, 3, none⟩ (.bool false)).setCell ⟨b, 9, none⟩ (.bool true)).setCell ⟨b, 10, none⟩ (.bool false) := ⟨_, rfl⟩
    have R3 : Hid (SR w3 b #[.string ⟨C.toArray⟩, .int .i64 C.length, .int .i64 pq, .bool false, .string ⟨#[]⟩, .bool true, .bool oo, .bool true, .int .i64 pr, .bool true, .bool false]) := Lib.hid (by rw [hw]; exact (((((R2.out.set 4 _).set 1 _).set 3 _).set 9 _).set 10 _))
    have FX : Fr [b] w2 w3 := by
      rw [hw]
      repeat (refine Fr.setCell ?_ (.inl (by simp)) _)
      exact Fr.refl _ _
    have N3 := Lib.hid (FX.blk N2.out (by simpa using hgb))
    have F3 := Lib.hid (F2.out.trans FX)
    rw [← hw]
    clear hw FX
    clear d0 d1 d2 d3 d4 d5 d6 d7 d8 d9 d10 f0 f1 f2 f3 f4 f5 f6 f7 f8 f9 f10 e0 e1 e2 e3 e4 e5 e6 e7 e8 e9 e10 e11
    obtain ⟨⟨d0, d1, d2, d3, d4, d5, d6, d7, d8, d9, d10⟩, f0, f1, f2, f3, f4, f5, f6, f7, f8, f9, f10⟩ := R3.out.all
    obtain ⟨e0, e1, e2, e3, e4, e5, e6, e7, e8, e9, e10, e11⟩ := box_all N3.out
    have hadd0 : ∀ w, (Op.stringOp .add ⟨C.toArray⟩ ⟨#[10]⟩).run Tryz.prog w = .ok (.string ⟨D.toArray⟩) w := fun w => by rw [← HD.out]; exact cat_lists w C [10] (by simp only [List.length_cons, List.length_nil]; omega)
    go_upto_region 13 with fail
    obtain ⟨w4, hw⟩ : ∃ q, q = (w3).setCell ⟨b, 0, none⟩ (.string ⟨D.toArray⟩) := ⟨_, rfl⟩
    have R4 : Hid (SR w4 b #[.string ⟨D.toArray⟩, .int .i64 C.length, .int .i64 pq, .bool false, .string ⟨#[]⟩, .bool true, .bool oo, .bool true, .int .i64 pr, .bool true, .bool false]) := Lib.hid (by rw [hw]; exact (R3.out.set 0 _))
    have FX : Fr [b] w3 w4 := by
      rw [hw]
      repeat (refine Fr.setCell ?_ (.inl (by simp)) _)
      exact Fr.refl _ _
    have N4 := Lib.hid (FX.blk N3.out (by simpa using hgb))
    have F4 := Lib.hid (F3.out.trans FX)
    rw [← hw]
    clear hw FX
    clear d0 d1 d2 d3 d4 d5 d6 d7 d8 d9 d10 f0 f1 f2 f3 f4 f5 f6 f7 f8 f9 f10 e0 e1 e2 e3 e4 e5 e6 e7 e8 e9 e10 e11
    obtain ⟨⟨d0, d1, d2, d3, d4, d5, d6, d7, d8, d9, d10⟩, f0, f1, f2, f3, f4, f5, f6, f7, f8, f9, f10⟩ := R4.out.all
    obtain ⟨e0, e1, e2, e3, e4, e5, e6, e7, e8, e9, e10, e11⟩ := box_all N4.out
    clear d0 d1 d2 d3 d4 d5 d6 d7 d8 d9 d10 f0 f1 f2 f3 f4 f5 f6 f7 f8 f9 f10 e0 e1 e2 e3 e4 e5 e6 e7 e8 e9 e10 e11
    have HQ : Hid (Fr [] w4.drew w4.drew) := Lib.hid (Fr.refl _ _)
    have aq : w4.drew.cell? ⟨b, 0, none⟩ = some _ := cell_of_row w4.drew b 0 _ 94 _ R4.out
    have qq : w4.drew.frozen? ⟨b, 0, none⟩ = false := frozen_of_row w4.drew b 0 _ 94 R4.out
    obtain ⟨-, eq1, eq2, eq3, eq4, eq5, eq6, eq7, eq8, -⟩ := box_all (w := w4.drew) N4.out
    go_region_law (first
      | (go_simp; go_at_call 42; refine (HE.out _).mono ?_; rintro e w3 ⟨rfl, hf3⟩; have HQ := Lib.hid (HQ.out.trans hf3); have RQ := Lib.hid (R4.out.drew.fr HQ.out (by simp)); have aq := cell_of_row w3 b 0 _ 94 _ RQ.out; have qq := frozen_of_row w3 b 0 _ 94 RQ.out; obtain ⟨-, eq1, eq2, eq3, eq4, eq5, eq6, eq7, eq8, -⟩ := box_all (HQ.out.blk N4.out (by simp)); clear hf3))
    all_goals
      go_simp
      go_wp2
      go_ret
      exact ⟨rfl, RQ.out.set 0 _, (((F4.out.drew).trans (HQ.out.sub (by simp))).setCell (.inl (by simp)) _)⟩
set_option maxRecDepth 100000 in
set_option maxHeartbeats 100000000 in
theorem spl_a_strict (op : Int) (b : Nat) (B : List UInt8) (s0 : Nat) (K : List UInt8) (err out : Bool) (pr : Int) (bg : Bool) (key value s : ByteArray) (k vn : Int) (u f : Nat) (x : Bool) (n m : Int) (hB : B.length ≤ 100000000) (w : World) (bad : Bool) (z : Bool) (hop : op = 0 ∨ op = 9) (hs : s0 ≤ B.length) (hK : ∀ w, Calls Tryz.prog 29 #[.string key] w fun e w' => e = .returned (.bool true) ∧ w' = w) (X : List UInt8) (hX : X.length ≤ 1000000) (hE : ∀ w, Calls Tryz.prog 42 #[.int .i64 0, .string key] w fun e w' => e = .returned (.string ⟨X.toArray⟩) ∧ Fr [] w w')
    (h : SR w b #[.string ⟨B.toArray⟩, .int .i64 s0, .int .i64 1, .bool bad, .string ⟨K.toArray⟩, .bool err, .bool out, .bool false, .int .i64 pr, .bool bg, .bool false]) :
    Calls Tryz.prog 52 #[.pointer (some ⟨b, 0, none⟩), .agg #[.int .i64 op, .string key, .string value, .int .i64 k, .string s, .int .i64 vn, .int .u64 u, .float .f64 f, .bool x, .int .i64 n, .int .i64 m, .bool z]] w fun e w' => e = .returned (.bool true) ∧ SR w' b #[.string ⟨(((B.take s0) ++ [10]) ++ X).toArray⟩, .int .i64 ((B.take s0).length : Nat), .int .i64 (if B.take s0 = [] then (0 : Int) else 1), .bool false, .string ⟨#[]⟩, .bool true, .bool (if err = true then out else false), .bool false, .int .i64 pr, .bool true, .bool false] ∧ Fr [b] w w' := by
  have HK := Lib.hid hK
  clear hK
  have HE := Lib.hid hE
  clear hE
  have hF := fun w h => fails_any b B s0 hs 1 bad (.string ⟨K.toArray⟩) err out false (.bool false) (.int .i64 pr) (.bool bg) w h
  unfold failRow at hF
  have hC : (B.take s0).length ≤ 100000000 := by rw [List.length_take]; omega
  clear hs
  generalize B.take s0 = C at hF hC ⊢
  generalize (if C = [] then (0 : Int) else 1) = pq at hF ⊢
  generalize (if err = true then out else false) = oo at hF ⊢
  have HFL := Lib.hid hF
  clear hF
  generalize hD : C ++ [10] = D
  have hDl : D.length ≤ 100000001 := by rw [← hD, List.length_append, List.length_singleton]; omega
  have HD := Lib.hid hD; clear hD
  generalize hR : D ++ X = RES
  have hadd : ∀ w, (Op.stringOp .add ⟨D.toArray⟩ ⟨X.toArray⟩).run Tryz.prog w = .ok (.string ⟨RES.toArray⟩) w := fun w => by rw [← hR]; exact cat_lists w D X (by omega)
  clear hR
  obtain ⟨w1, HA, HN, hw1⟩ : ∃ q, Fr [] w q ∧ q.heap[w.heap.size]? = some (.cells #[.int .i64 op, .string key, .string value, .int .i64 k, .string s, .int .i64 vn, .int .u64 u, .float .f64 f, .bool x, .int .i64 n, .int .i64 m, .bool z] 38 (0, 0)) ∧ w.alloc (.cells #[.int .i64 op, .string key, .string value, .int .i64 k, .string s, .int .i64 vn, .int .u64 u, .float .f64 f, .bool x, .int .i64 n, .int .i64 m, .bool z] 38) = q := ⟨_, (Fr.refl [] w).alloc _, heap_alloc_new _ _, rfl⟩
  have hbl : b < w.heap.size := (Array.getElem?_eq_some_iff.1 h).1
  have hbg : ¬ b = w.heap.size := by omega
  have hgb : ¬ w.heap.size = b := by omega
  have R1 := Lib.hid (h.fr HA (by simp))
  have N1 := Lib.hid HN
  have F1 : Hid (Fr [b] w w1) := Lib.hid (HA.sub (by simp))
  have HW := Lib.hid hw1
  clear h hbl HA HN hw1
  rcases hop with rfl | rfl
  all_goals
    go_enter Tryz.func52, Tryz.ntmps52
    go_upto_region 4 with fail
    rw [HW.out]
    clear HW
    obtain ⟨⟨d0, d1, d2, d3, d4, d5, d6, d7, d8, d9, d10⟩, f0, f1, f2, f3, f4, f5, f6, f7, f8, f9, f10⟩ := R1.out.all
    obtain ⟨e0, e1, e2, e3, e4, e5, e6, e7, e8, e9, e10, e11⟩ := box_all N1.out
    go_upto_region 5 with fail
    go_upto_region 6 with fail
    go_upto_region 8 with (go_at_call 92; refine (HFL.out _ (R1.out.set 2 _)).mono ?_; rintro e w2 ⟨rfl, hr, hf⟩; have R2 := Lib.hid hr; have HF := Lib.hid hf; clear hr hf)
    have FY : Fr [b] w w2 := Fr.trans (by
      repeat (refine Fr.setCell ?_ (.inl (by simp)) _)
      exact F1.out) HF.out
    have N2 := Lib.hid ((Fr.trans (by
      show Fr [b] w1 _
      repeat (refine Fr.setCell ?_ (.inl (by simp)) _)
      exact Fr.refl _ _) HF.out).blk N1.out (by simpa using hgb))
    have F2 := Lib.hid FY
    clear FY
    clear d0 d1 d2 d3 d4 d5 d6 d7 d8 d9 d10 f0 f1 f2 f3 f4 f5 f6 f7 f8 f9 f10 e0 e1 e2 e3 e4 e5 e6 e7 e8 e9 e10 e11
    obtain ⟨⟨d0, d1, d2, d3, d4, d5, d6, d7, d8, d9, d10⟩, f0, f1, f2, f3, f4, f5, f6, f7, f8, f9, f10⟩ := R2.out.all
    obtain ⟨e0, e1, e2, e3, e4, e5, e6, e7, e8, e9, e10, e11⟩ := box_all N2.out
    go_upto_region 9 with fail
    go_upto_region 11 with (go_at_call 29; refine (HK.out _).mono ?_; rintro e wz ⟨rfl, rfl⟩)
    obtain ⟨w3, hw⟩ : ∃ q, q = (((((w2).setCell ⟨b, 4, none⟩ (.string ⟨#[]⟩)).setCell ⟨b, 1, none⟩ (.int .i64 C.length)).setCell ⟨b, 3, none⟩ (.bool false)).setCell ⟨b, 9, none⟩ (.bool true)).setCell ⟨b, 10, none⟩ (.bool false) := ⟨_, rfl⟩
    have R3 : Hid (SR w3 b #[.string ⟨C.toArray⟩, .int .i64 C.length, .int .i64 pq, .bool false, .string ⟨#[]⟩, .bool true, .bool oo, .bool false, .int .i64 pr, .bool true, .bool false]) := Lib.hid (by rw [hw]; exact (((((R2.out.set 4 _).set 1 _).set 3 _).set 9 _).set 10 _))
    have FX : Fr [b] w2 w3 := by
      rw [hw]
      repeat (refine Fr.setCell ?_ (.inl (by simp)) _)
      exact Fr.refl _ _
    have N3 := Lib.hid (FX.blk N2.out (by simpa using hgb))
    have F3 := Lib.hid (F2.out.trans FX)
    rw [← hw]
    clear hw FX
    clear d0 d1 d2 d3 d4 d5 d6 d7 d8 d9 d10 f0 f1 f2 f3 f4 f5 f6 f7 f8 f9 f10 e0 e1 e2 e3 e4 e5 e6 e7 e8 e9 e10 e11
    obtain ⟨⟨d0, d1, d2, d3, d4, d5, d6, d7, d8, d9, d10⟩, f0, f1, f2, f3, f4, f5, f6, f7, f8, f9, f10⟩ := R3.out.all
    obtain ⟨e0, e1, e2, e3, e4, e5, e6, e7, e8, e9, e10, e11⟩ := box_all N3.out
    have hadd0 : ∀ w, (Op.stringOp .add ⟨C.toArray⟩ ⟨#[10]⟩).run Tryz.prog w = .ok (.string ⟨D.toArray⟩) w := fun w => by rw [← HD.out]; exact cat_lists w C [10] (by simp only [List.length_cons, List.length_nil]; omega)
    go_upto_region 13 with fail
    obtain ⟨w4, hw⟩ : ∃ q, q = (w3).setCell ⟨b, 0, none⟩ (.string ⟨D.toArray⟩) := ⟨_, rfl⟩
    have R4 : Hid (SR w4 b #[.string ⟨D.toArray⟩, .int .i64 C.length, .int .i64 pq, .bool false, .string ⟨#[]⟩, .bool true, .bool oo, .bool false, .int .i64 pr, .bool true, .bool false]) := Lib.hid (by rw [hw]; exact (R3.out.set 0 _))
    have FX : Fr [b] w3 w4 := by
      rw [hw]
      repeat (refine Fr.setCell ?_ (.inl (by simp)) _)
      exact Fr.refl _ _
    have N4 := Lib.hid (FX.blk N3.out (by simpa using hgb))
    have F4 := Lib.hid (F3.out.trans FX)
    rw [← hw]
    clear hw FX
    clear d0 d1 d2 d3 d4 d5 d6 d7 d8 d9 d10 f0 f1 f2 f3 f4 f5 f6 f7 f8 f9 f10 e0 e1 e2 e3 e4 e5 e6 e7 e8 e9 e10 e11
    obtain ⟨⟨d0, d1, d2, d3, d4, d5, d6, d7, d8, d9, d10⟩, f0, f1, f2, f3, f4, f5, f6, f7, f8, f9, f10⟩ := R4.out.all
    obtain ⟨e0, e1, e2, e3, e4, e5, e6, e7, e8, e9, e10, e11⟩ := box_all N4.out
    clear d0 d1 d2 d3 d4 d5 d6 d7 d8 d9 d10 f0 f1 f2 f3 f4 f5 f6 f7 f8 f9 f10 e0 e1 e2 e3 e4 e5 e6 e7 e8 e9 e10 e11
    have HQ : Hid (Fr [] w4.drew w4.drew) := Lib.hid (Fr.refl _ _)
    have aq : w4.drew.cell? ⟨b, 0, none⟩ = some _ := cell_of_row w4.drew b 0 _ 94 _ R4.out
    have qq : w4.drew.frozen? ⟨b, 0, none⟩ = false := frozen_of_row w4.drew b 0 _ 94 R4.out
    obtain ⟨-, eq1, eq2, eq3, eq4, eq5, eq6, eq7, eq8, -⟩ := box_all (w := w4.drew) N4.out
    go_region_law (first
      | (go_simp; go_at_call 42; refine (HE.out _).mono ?_; rintro e w3 ⟨rfl, hf3⟩; have HQ := Lib.hid (HQ.out.trans hf3); have RQ := Lib.hid (R4.out.drew.fr HQ.out (by simp)); have aq := cell_of_row w3 b 0 _ 94 _ RQ.out; have qq := frozen_of_row w3 b 0 _ 94 RQ.out; obtain ⟨-, eq1, eq2, eq3, eq4, eq5, eq6, eq7, eq8, -⟩ := box_all (HQ.out.blk N4.out (by simp)); clear hf3))
    all_goals
      go_simp
      go_wp2
      go_ret
      exact ⟨rfl, RQ.out.set 0 _, (((F4.out.drew).trans (HQ.out.sub (by simp))).setCell (.inl (by simp)) _)⟩
set_option maxRecDepth 100000 in
set_option maxHeartbeats 100000000 in
theorem spl_0_fail (op : Int) (b : Nat) (B : List UInt8) (s0 : Nat) (K : List UInt8) (err out : Bool) (pr : Int) (bg : Bool) (key value s : ByteArray) (k vn : Int) (u f : Nat) (x : Bool) (n m : Int) (w : World) (bad : Bool) (stl : Bool) (z : Bool) (hop : op = 0 ∨ op = 9) (hK : ∀ w, Calls Tryz.prog 29 #[.string key] w fun e w' => e = .returned (.bool false) ∧ w' = w)
    (h : SR w b #[.string ⟨B.toArray⟩, .int .i64 s0, .int .i64 0, .bool bad, .string ⟨K.toArray⟩, .bool err, .bool out, .bool false, .int .i64 pr, .bool bg, .bool stl]) :
    Calls Tryz.prog 52 #[.pointer (some ⟨b, 0, none⟩), .agg #[.int .i64 op, .string key, .string value, .int .i64 k, .string s, .int .i64 vn, .int .u64 u, .float .f64 f, .bool x, .int .i64 n, .int .i64 m, .bool z]] w fun e w' => e = .returned (.bool true) ∧ SR w' b (failRow (B) (B).length 1 (.string ⟨#[]⟩) err out false (.bool false) (.int .i64 pr) (.bool true)) ∧ Fr [b] w w' := by
  have HK := Lib.hid hK
  clear hK
  obtain ⟨w1, HA, HN, hw1⟩ : ∃ q, Fr [] w q ∧ q.heap[w.heap.size]? = some (.cells #[.int .i64 op, .string key, .string value, .int .i64 k, .string s, .int .i64 vn, .int .u64 u, .float .f64 f, .bool x, .int .i64 n, .int .i64 m, .bool z] 38 (0, 0)) ∧ w.alloc (.cells #[.int .i64 op, .string key, .string value, .int .i64 k, .string s, .int .i64 vn, .int .u64 u, .float .f64 f, .bool x, .int .i64 n, .int .i64 m, .bool z] 38) = q := ⟨_, (Fr.refl [] w).alloc _, heap_alloc_new _ _, rfl⟩
  have hbl : b < w.heap.size := (Array.getElem?_eq_some_iff.1 h).1
  have hbg : ¬ b = w.heap.size := by omega
  have hgb : ¬ w.heap.size = b := by omega
  have R1 := Lib.hid (h.fr HA (by simp))
  have N1 := Lib.hid HN
  have F1 : Hid (Fr [b] w w1) := Lib.hid (HA.sub (by simp))
  have HW := Lib.hid hw1
  clear h hbl HA HN hw1
  rcases hop with rfl | rfl
  all_goals
    go_enter Tryz.func52, Tryz.ntmps52
    go_upto_region 4 with fail
    rw [HW.out]
    clear HW
    obtain ⟨⟨d0, d1, d2, d3, d4, d5, d6, d7, d8, d9, d10⟩, f0, f1, f2, f3, f4, f5, f6, f7, f8, f9, f10⟩ := R1.out.all
    obtain ⟨e0, e1, e2, e3, e4, e5, e6, e7, e8, e9, e10, e11⟩ := box_all N1.out
    go_upto_region 5 with fail
    go_upto_region 6 with fail
    go_upto_region 8 with fail
    go_upto_region 9 with fail
    go_upto_region 10 with (go_at_call 29; refine (HK.out _).mono ?_; rintro e wz ⟨rfl, rfl⟩)
    go_wp2_with (go_at_call 92; refine (fails_any b B B.length (Nat.le_refl _) 1 false (.string ⟨#[]⟩) err out false (.bool false) (.int .i64 pr) (.bool true) _ ((((((R1.out.set 2 _).set 4 _).set 1 _).set 3 _).set 9 _).set 10 _)).mono ?_; rintro e wk ⟨rfl, hr, hf⟩; have HR := Lib.hid hr; have HF := Lib.hid hf; clear hr hf)
    go_ret
    refine ⟨rfl, HR.out, Fr.trans ?_ HF.out⟩
    repeat (refine Fr.setCell ?_ (.inl (by simp)) _)
    exact F1.out
set_option maxRecDepth 100000 in
set_option maxHeartbeats 100000000 in
theorem spl_0_lax (op : Int) (b : Nat) (B : List UInt8) (s0 : Nat) (K : List UInt8) (err out : Bool) (pr : Int) (bg : Bool) (key value s : ByteArray) (k vn : Int) (u f : Nat) (x : Bool) (n m : Int) (hB : B.length ≤ 100000000) (w : World) (bad : Bool) (stl : Bool) (z : Bool) (hop : op = 0 ∨ op = 9) (X : List UInt8) (hX : X.length ≤ 1000000) (hE : ∀ w, Calls Tryz.prog 42 #[.int .i64 0, .string key] w fun e w' => e = .returned (.string ⟨X.toArray⟩) ∧ Fr [] w w')
    (h : SR w b #[.string ⟨B.toArray⟩, .int .i64 s0, .int .i64 0, .bool bad, .string ⟨K.toArray⟩, .bool err, .bool out, .bool true, .int .i64 pr, .bool bg, .bool stl]) :
    Calls Tryz.prog 52 #[.pointer (some ⟨b, 0, none⟩), .agg #[.int .i64 op, .string key, .string value, .int .i64 k, .string s, .int .i64 vn, .int .u64 u, .float .f64 f, .bool x, .int .i64 n, .int .i64 m, .bool z]] w fun e w' => e = .returned (.bool true) ∧ SR w' b #[.string ⟨((B) ++ X).toArray⟩, .int .i64 ((B).length : Nat), .int .i64 1, .bool false, .string ⟨#[]⟩, .bool err, .bool out, .bool true, .int .i64 pr, .bool true, .bool false] ∧ Fr [b] w w' := by
  have HE := Lib.hid hE
  clear hE
  generalize hR : B ++ X = RES
  have hadd : ∀ w, (Op.stringOp .add ⟨B.toArray⟩ ⟨X.toArray⟩).run Tryz.prog w = .ok (.string ⟨RES.toArray⟩) w := fun w => by rw [← hR]; exact cat_lists w B X (by omega)
  clear hR
  obtain ⟨w1, HA, HN, hw1⟩ : ∃ q, Fr [] w q ∧ q.heap[w.heap.size]? = some (.cells #[.int .i64 op, .string key, .string value, .int .i64 k, .string s, .int .i64 vn, .int .u64 u, .float .f64 f, .bool x, .int .i64 n, .int .i64 m, .bool z] 38 (0, 0)) ∧ w.alloc (.cells #[.int .i64 op, .string key, .string value, .int .i64 k, .string s, .int .i64 vn, .int .u64 u, .float .f64 f, .bool x, .int .i64 n, .int .i64 m, .bool z] 38) = q := ⟨_, (Fr.refl [] w).alloc _, heap_alloc_new _ _, rfl⟩
  have hbl : b < w.heap.size := (Array.getElem?_eq_some_iff.1 h).1
  have hbg : ¬ b = w.heap.size := by omega
  have hgb : ¬ w.heap.size = b := by omega
  have R1 := Lib.hid (h.fr HA (by simp))
  have N1 := Lib.hid HN
  have F1 : Hid (Fr [b] w w1) := Lib.hid (HA.sub (by simp))
  have HW := Lib.hid hw1
  clear h hbl HA HN hw1
  rcases hop with rfl | rfl
  all_goals
    go_enter Tryz.func52, Tryz.ntmps52
    go_upto_region 4 with fail
    rw [HW.out]
    clear HW
    obtain ⟨⟨d0, d1, d2, d3, d4, d5, d6, d7, d8, d9, d10⟩, f0, f1, f2, f3, f4, f5, f6, f7, f8, f9, f10⟩ := R1.out.all
    obtain ⟨e0, e1, e2, e3, e4, e5, e6, e7, e8, e9, e10, e11⟩ := box_all N1.out
    go_upto_region 5 with fail
    go_upto_region 6 with fail
    go_upto_region 8 with fail
    go_upto_region 9 with fail
    go_upto_region 11 with fail
    obtain ⟨w2, hw⟩ : ∃ q, q = ((((((w1).setCell ⟨b, 2, none⟩ (.int .i64 1)).setCell ⟨b, 4, none⟩ (.string ⟨#[]⟩)).setCell ⟨b, 1, none⟩ (.int .i64 B.length)).setCell ⟨b, 3, none⟩ (.bool false)).setCell ⟨b, 9, none⟩ (.bool true)).setCell ⟨b, 10, none⟩ (.bool false) := ⟨_, rfl⟩
    have R2 : Hid (SR w2 b #[.string ⟨B.toArray⟩, .int .i64 B.length, .int .i64 1, .bool false, .string ⟨#[]⟩, .bool err, .bool out, .bool true, .int .i64 pr, .bool true, .bool false]) := Lib.hid (by rw [hw]; exact ((((((R1.out.set 2 _).set 4 _).set 1 _).set 3 _).set 9 _).set 10 _))
    have FX : Fr [b] w1 w2 := by
      rw [hw]
      repeat (refine Fr.setCell ?_ (.inl (by simp)) _)
      exact Fr.refl _ _
    have N2 := Lib.hid (FX.blk N1.out (by simpa using hgb))
    have F2 := Lib.hid (F1.out.trans FX)
    rw [← hw]
    clear hw FX
    clear d0 d1 d2 d3 d4 d5 d6 d7 d8 d9 d10 f0 f1 f2 f3 f4 f5 f6 f7 f8 f9 f10 e0 e1 e2 e3 e4 e5 e6 e7 e8 e9 e10 e11
    obtain ⟨⟨d0, d1, d2, d3, d4, d5, d6, d7, d8, d9, d10⟩, f0, f1, f2, f3, f4, f5, f6, f7, f8, f9, f10⟩ := R2.out.all
    obtain ⟨e0, e1, e2, e3, e4, e5, e6, e7, e8, e9, e10, e11⟩ := box_all N2.out
    go_upto_region 13 with fail
    clear d0 d1 d2 d3 d4 d5 d6 d7 d8 d9 d10 f0 f1 f2 f3 f4 f5 f6 f7 f8 f9 f10 e0 e1 e2 e3 e4 e5 e6 e7 e8 e9 e10 e11
    have HQ : Hid (Fr [] w2.drew w2.drew) := Lib.hid (Fr.refl _ _)
    have aq : w2.drew.cell? ⟨b, 0, none⟩ = some _ := cell_of_row w2.drew b 0 _ 94 _ R2.out
    have qq : w2.drew.frozen? ⟨b, 0, none⟩ = false := frozen_of_row w2.drew b 0 _ 94 R2.out
    obtain ⟨-, eq1, eq2, eq3, eq4, eq5, eq6, eq7, eq8, -⟩ := box_all (w := w2.drew) N2.out
    go_region_law (first
      | (go_simp; go_at_call 42; refine (HE.out _).mono ?_; rintro e w3 ⟨rfl, hf3⟩; have HQ := Lib.hid (HQ.out.trans hf3); have RQ := Lib.hid (R2.out.drew.fr HQ.out (by simp)); have aq := cell_of_row w3 b 0 _ 94 _ RQ.out; have qq := frozen_of_row w3 b 0 _ 94 RQ.out; obtain ⟨-, eq1, eq2, eq3, eq4, eq5, eq6, eq7, eq8, -⟩ := box_all (HQ.out.blk N2.out (by simp)); clear hf3))
    all_goals
      go_simp
      go_wp2
      go_ret
      exact ⟨rfl, RQ.out.set 0 _, (((F2.out.drew).trans (HQ.out.sub (by simp))).setCell (.inl (by simp)) _)⟩
set_option maxRecDepth 100000 in
set_option maxHeartbeats 100000000 in
theorem spl_0_strict (op : Int) (b : Nat) (B : List UInt8) (s0 : Nat) (K : List UInt8) (err out : Bool) (pr : Int) (bg : Bool) (key value s : ByteArray) (k vn : Int) (u f : Nat) (x : Bool) (n m : Int) (hB : B.length ≤ 100000000) (w : World) (bad : Bool) (stl : Bool) (z : Bool) (hop : op = 0 ∨ op = 9) (hK : ∀ w, Calls Tryz.prog 29 #[.string key] w fun e w' => e = .returned (.bool true) ∧ w' = w) (X : List UInt8) (hX : X.length ≤ 1000000) (hE : ∀ w, Calls Tryz.prog 42 #[.int .i64 0, .string key] w fun e w' => e = .returned (.string ⟨X.toArray⟩) ∧ Fr [] w w')
    (h : SR w b #[.string ⟨B.toArray⟩, .int .i64 s0, .int .i64 0, .bool bad, .string ⟨K.toArray⟩, .bool err, .bool out, .bool false, .int .i64 pr, .bool bg, .bool stl]) :
    Calls Tryz.prog 52 #[.pointer (some ⟨b, 0, none⟩), .agg #[.int .i64 op, .string key, .string value, .int .i64 k, .string s, .int .i64 vn, .int .u64 u, .float .f64 f, .bool x, .int .i64 n, .int .i64 m, .bool z]] w fun e w' => e = .returned (.bool true) ∧ SR w' b #[.string ⟨((B) ++ X).toArray⟩, .int .i64 ((B).length : Nat), .int .i64 1, .bool false, .string ⟨#[]⟩, .bool err, .bool out, .bool false, .int .i64 pr, .bool true, .bool false] ∧ Fr [b] w w' := by
  have HK := Lib.hid hK
  clear hK
  have HE := Lib.hid hE
  clear hE
  generalize hR : B ++ X = RES
  have hadd : ∀ w, (Op.stringOp .add ⟨B.toArray⟩ ⟨X.toArray⟩).run Tryz.prog w = .ok (.string ⟨RES.toArray⟩) w := fun w => by rw [← hR]; exact cat_lists w B X (by omega)
  clear hR
  obtain ⟨w1, HA, HN, hw1⟩ : ∃ q, Fr [] w q ∧ q.heap[w.heap.size]? = some (.cells #[.int .i64 op, .string key, .string value, .int .i64 k, .string s, .int .i64 vn, .int .u64 u, .float .f64 f, .bool x, .int .i64 n, .int .i64 m, .bool z] 38 (0, 0)) ∧ w.alloc (.cells #[.int .i64 op, .string key, .string value, .int .i64 k, .string s, .int .i64 vn, .int .u64 u, .float .f64 f, .bool x, .int .i64 n, .int .i64 m, .bool z] 38) = q := ⟨_, (Fr.refl [] w).alloc _, heap_alloc_new _ _, rfl⟩
  have hbl : b < w.heap.size := (Array.getElem?_eq_some_iff.1 h).1
  have hbg : ¬ b = w.heap.size := by omega
  have hgb : ¬ w.heap.size = b := by omega
  have R1 := Lib.hid (h.fr HA (by simp))
  have N1 := Lib.hid HN
  have F1 : Hid (Fr [b] w w1) := Lib.hid (HA.sub (by simp))
  have HW := Lib.hid hw1
  clear h hbl HA HN hw1
  rcases hop with rfl | rfl
  all_goals
    go_enter Tryz.func52, Tryz.ntmps52
    go_upto_region 4 with fail
    rw [HW.out]
    clear HW
    obtain ⟨⟨d0, d1, d2, d3, d4, d5, d6, d7, d8, d9, d10⟩, f0, f1, f2, f3, f4, f5, f6, f7, f8, f9, f10⟩ := R1.out.all
    obtain ⟨e0, e1, e2, e3, e4, e5, e6, e7, e8, e9, e10, e11⟩ := box_all N1.out
    go_upto_region 5 with fail
    go_upto_region 6 with fail
    go_upto_region 8 with fail
    go_upto_region 9 with fail
    go_upto_region 11 with (go_at_call 29; refine (HK.out _).mono ?_; rintro e wz ⟨rfl, rfl⟩)
    obtain ⟨w2, hw⟩ : ∃ q, q = ((((((w1).setCell ⟨b, 2, none⟩ (.int .i64 1)).setCell ⟨b, 4, none⟩ (.string ⟨#[]⟩)).setCell ⟨b, 1, none⟩ (.int .i64 B.length)).setCell ⟨b, 3, none⟩ (.bool false)).setCell ⟨b, 9, none⟩ (.bool true)).setCell ⟨b, 10, none⟩ (.bool false) := ⟨_, rfl⟩
    have R2 : Hid (SR w2 b #[.string ⟨B.toArray⟩, .int .i64 B.length, .int .i64 1, .bool false, .string ⟨#[]⟩, .bool err, .bool out, .bool false, .int .i64 pr, .bool true, .bool false]) := Lib.hid (by rw [hw]; exact ((((((R1.out.set 2 _).set 4 _).set 1 _).set 3 _).set 9 _).set 10 _))
    have FX : Fr [b] w1 w2 := by
      rw [hw]
      repeat (refine Fr.setCell ?_ (.inl (by simp)) _)
      exact Fr.refl _ _
    have N2 := Lib.hid (FX.blk N1.out (by simpa using hgb))
    have F2 := Lib.hid (F1.out.trans FX)
    rw [← hw]
    clear hw FX
    clear d0 d1 d2 d3 d4 d5 d6 d7 d8 d9 d10 f0 f1 f2 f3 f4 f5 f6 f7 f8 f9 f10 e0 e1 e2 e3 e4 e5 e6 e7 e8 e9 e10 e11
    obtain ⟨⟨d0, d1, d2, d3, d4, d5, d6, d7, d8, d9, d10⟩, f0, f1, f2, f3, f4, f5, f6, f7, f8, f9, f10⟩ := R2.out.all
    obtain ⟨e0, e1, e2, e3, e4, e5, e6, e7, e8, e9, e10, e11⟩ := box_all N2.out
    go_upto_region 13 with fail
    clear d0 d1 d2 d3 d4 d5 d6 d7 d8 d9 d10 f0 f1 f2 f3 f4 f5 f6 f7 f8 f9 f10 e0 e1 e2 e3 e4 e5 e6 e7 e8 e9 e10 e11
    have HQ : Hid (Fr [] w2.drew w2.drew) := Lib.hid (Fr.refl _ _)
    have aq : w2.drew.cell? ⟨b, 0, none⟩ = some _ := cell_of_row w2.drew b 0 _ 94 _ R2.out
    have qq : w2.drew.frozen? ⟨b, 0, none⟩ = false := frozen_of_row w2.drew b 0 _ 94 R2.out
    obtain ⟨-, eq1, eq2, eq3, eq4, eq5, eq6, eq7, eq8, -⟩ := box_all (w := w2.drew) N2.out
    go_region_law (first
      | (go_simp; go_at_call 42; refine (HE.out _).mono ?_; rintro e w3 ⟨rfl, hf3⟩; have HQ := Lib.hid (HQ.out.trans hf3); have RQ := Lib.hid (R2.out.drew.fr HQ.out (by simp)); have aq := cell_of_row w3 b 0 _ 94 _ RQ.out; have qq := frozen_of_row w3 b 0 _ 94 RQ.out; obtain ⟨-, eq1, eq2, eq3, eq4, eq5, eq6, eq7, eq8, -⟩ := box_all (HQ.out.blk N2.out (by simp)); clear hf3))
    all_goals
      go_simp
      go_wp2
      go_ret
      exact ⟨rfl, RQ.out.set 0 _, (((F2.out.drew).trans (HQ.out.sub (by simp))).setCell (.inl (by simp)) _)⟩
set_option maxRecDepth 100000 in
set_option maxHeartbeats 100000000 in
theorem spl_5_fail (op : Int) (b : Nat) (B : List UInt8) (s0 : Nat) (K : List UInt8) (err out : Bool) (pr : Int) (bg : Bool) (key value s : ByteArray) (k vn : Int) (u f : Nat) (x : Bool) (n m : Int) (w : World) (bad : Bool) (stl : Bool) (z : Bool) (hop : op = 0 ∨ op = 9) (hK : ∀ w, Calls Tryz.prog 29 #[.string key] w fun e w' => e = .returned (.bool false) ∧ w' = w)
    (h : SR w b #[.string ⟨B.toArray⟩, .int .i64 s0, .int .i64 5, .bool bad, .string ⟨K.toArray⟩, .bool err, .bool out, .bool false, .int .i64 pr, .bool bg, .bool stl]) :
    Calls Tryz.prog 52 #[.pointer (some ⟨b, 0, none⟩), .agg #[.int .i64 op, .string key, .string value, .int .i64 k, .string s, .int .i64 vn, .int .u64 u, .float .f64 f, .bool x, .int .i64 n, .int .i64 m, .bool z]] w fun e w' => e = .returned (.bool true) ∧ SR w' b (failRow (B) (B).length 1 (.string ⟨#[]⟩) err out false (.bool false) (.int .i64 pr) (.bool true)) ∧ Fr [b] w w' := by
  have HK := Lib.hid hK
  clear hK
  obtain ⟨w1, HA, HN, hw1⟩ : ∃ q, Fr [] w q ∧ q.heap[w.heap.size]? = some (.cells #[.int .i64 op, .string key, .string value, .int .i64 k, .string s, .int .i64 vn, .int .u64 u, .float .f64 f, .bool x, .int .i64 n, .int .i64 m, .bool z] 38 (0, 0)) ∧ w.alloc (.cells #[.int .i64 op, .string key, .string value, .int .i64 k, .string s, .int .i64 vn, .int .u64 u, .float .f64 f, .bool x, .int .i64 n, .int .i64 m, .bool z] 38) = q := ⟨_, (Fr.refl [] w).alloc _, heap_alloc_new _ _, rfl⟩
  have hbl : b < w.heap.size := (Array.getElem?_eq_some_iff.1 h).1
  have hbg : ¬ b = w.heap.size := by omega
  have hgb : ¬ w.heap.size = b := by omega
  have R1 := Lib.hid (h.fr HA (by simp))
  have N1 := Lib.hid HN
  have F1 : Hid (Fr [b] w w1) := Lib.hid (HA.sub (by simp))
  have HW := Lib.hid hw1
  clear h hbl HA HN hw1
  rcases hop with rfl | rfl
  all_goals
    go_enter Tryz.func52, Tryz.ntmps52
    go_upto_region 4 with fail
    rw [HW.out]
    clear HW
    obtain ⟨⟨d0, d1, d2, d3, d4, d5, d6, d7, d8, d9, d10⟩, f0, f1, f2, f3, f4, f5, f6, f7, f8, f9, f10⟩ := R1.out.all
    obtain ⟨e0, e1, e2, e3, e4, e5, e6, e7, e8, e9, e10, e11⟩ := box_all N1.out
    go_upto_region 5 with fail
    go_upto_region 6 with fail
    go_upto_region 8 with fail
    go_upto_region 9 with fail
    go_upto_region 10 with (go_at_call 29; refine (HK.out _).mono ?_; rintro e wz ⟨rfl, rfl⟩)
    go_wp2_with (go_at_call 92; refine (fails_any b B B.length (Nat.le_refl _) 1 false (.string ⟨#[]⟩) err out false (.bool false) (.int .i64 pr) (.bool true) _ ((((((R1.out.set 2 _).set 4 _).set 1 _).set 3 _).set 9 _).set 10 _)).mono ?_; rintro e wk ⟨rfl, hr, hf⟩; have HR := Lib.hid hr; have HF := Lib.hid hf; clear hr hf)
    go_ret
    refine ⟨rfl, HR.out, Fr.trans ?_ HF.out⟩
    repeat (refine Fr.setCell ?_ (.inl (by simp)) _)
    exact F1.out
set_option maxRecDepth 100000 in
set_option maxHeartbeats 100000000 in
theorem spl_5_lax (op : Int) (b : Nat) (B : List UInt8) (s0 : Nat) (K : List UInt8) (err out : Bool) (pr : Int) (bg : Bool) (key value s : ByteArray) (k vn : Int) (u f : Nat) (x : Bool) (n m : Int) (hB : B.length ≤ 100000000) (w : World) (bad : Bool) (stl : Bool) (z : Bool) (hop : op = 0 ∨ op = 9) (X : List UInt8) (hX : X.length ≤ 1000000) (hE : ∀ w, Calls Tryz.prog 42 #[.int .i64 0, .string key] w fun e w' => e = .returned (.string ⟨X.toArray⟩) ∧ Fr [] w w')
    (h : SR w b #[.string ⟨B.toArray⟩, .int .i64 s0, .int .i64 5, .bool bad, .string ⟨K.toArray⟩, .bool err, .bool out, .bool true, .int .i64 pr, .bool bg, .bool stl]) :
    Calls Tryz.prog 52 #[.pointer (some ⟨b, 0, none⟩), .agg #[.int .i64 op, .string key, .string value, .int .i64 k, .string s, .int .i64 vn, .int .u64 u, .float .f64 f, .bool x, .int .i64 n, .int .i64 m, .bool z]] w fun e w' => e = .returned (.bool true) ∧ SR w' b #[.string ⟨((B) ++ X).toArray⟩, .int .i64 ((B).length : Nat), .int .i64 1, .bool false, .string ⟨#[]⟩, .bool err, .bool out, .bool true, .int .i64 pr, .bool true, .bool false] ∧ Fr [b] w w' := by
  have HE := Lib.hid hE
  clear hE
  generalize hR : B ++ X = RES
  have hadd : ∀ w, (Op.stringOp .add ⟨B.toArray⟩ ⟨X.toArray⟩).run Tryz.prog w = .ok (.string ⟨RES.toArray⟩) w := fun w => by rw [← hR]; exact cat_lists w B X (by omega)
  clear hR
  obtain ⟨w1, HA, HN, hw1⟩ : ∃ q, Fr [] w q ∧ q.heap[w.heap.size]? = some (.cells #[.int .i64 op, .string key, .string value, .int .i64 k, .string s, .int .i64 vn, .int .u64 u, .float .f64 f, .bool x, .int .i64 n, .int .i64 m, .bool z] 38 (0, 0)) ∧ w.alloc (.cells #[.int .i64 op, .string key, .string value, .int .i64 k, .string s, .int .i64 vn, .int .u64 u, .float .f64 f, .bool x, .int .i64 n, .int .i64 m, .bool z] 38) = q := ⟨_, (Fr.refl [] w).alloc _, heap_alloc_new _ _, rfl⟩
  have hbl : b < w.heap.size := (Array.getElem?_eq_some_iff.1 h).1
  have hbg : ¬ b = w.heap.size := by omega
  have hgb : ¬ w.heap.size = b := by omega
  have R1 := Lib.hid (h.fr HA (by simp))
  have N1 := Lib.hid HN
  have F1 : Hid (Fr [b] w w1) := Lib.hid (HA.sub (by simp))
  have HW := Lib.hid hw1
  clear h hbl HA HN hw1
  rcases hop with rfl | rfl
  all_goals
    go_enter Tryz.func52, Tryz.ntmps52
    go_upto_region 4 with fail
    rw [HW.out]
    clear HW
    obtain ⟨⟨d0, d1, d2, d3, d4, d5, d6, d7, d8, d9, d10⟩, f0, f1, f2, f3, f4, f5, f6, f7, f8, f9, f10⟩ := R1.out.all
    obtain ⟨e0, e1, e2, e3, e4, e5, e6, e7, e8, e9, e10, e11⟩ := box_all N1.out
    go_upto_region 5 with fail
    go_upto_region 6 with fail
    go_upto_region 8 with fail
    go_upto_region 9 with fail
    go_upto_region 11 with fail
    obtain ⟨w2, hw⟩ : ∃ q, q = ((((((w1).setCell ⟨b, 2, none⟩ (.int .i64 1)).setCell ⟨b, 4, none⟩ (.string ⟨#[]⟩)).setCell ⟨b, 1, none⟩ (.int .i64 B.length)).setCell ⟨b, 3, none⟩ (.bool false)).setCell ⟨b, 9, none⟩ (.bool true)).setCell ⟨b, 10, none⟩ (.bool false) := ⟨_, rfl⟩
    have R2 : Hid (SR w2 b #[.string ⟨B.toArray⟩, .int .i64 B.length, .int .i64 1, .bool false, .string ⟨#[]⟩, .bool err, .bool out, .bool true, .int .i64 pr, .bool true, .bool false]) := Lib.hid (by rw [hw]; exact ((((((R1.out.set 2 _).set 4 _).set 1 _).set 3 _).set 9 _).set 10 _))
    have FX : Fr [b] w1 w2 := by
      rw [hw]
      repeat (refine Fr.setCell ?_ (.inl (by simp)) _)
      exact Fr.refl _ _
    have N2 := Lib.hid (FX.blk N1.out (by simpa using hgb))
    have F2 := Lib.hid (F1.out.trans FX)
    rw [← hw]
    clear hw FX
    clear d0 d1 d2 d3 d4 d5 d6 d7 d8 d9 d10 f0 f1 f2 f3 f4 f5 f6 f7 f8 f9 f10 e0 e1 e2 e3 e4 e5 e6 e7 e8 e9 e10 e11
    obtain ⟨⟨d0, d1, d2, d3, d4, d5, d6, d7, d8, d9, d10⟩, f0, f1, f2, f3, f4, f5, f6, f7, f8, f9, f10⟩ := R2.out.all
    obtain ⟨e0, e1, e2, e3, e4, e5, e6, e7, e8, e9, e10, e11⟩ := box_all N2.out
    go_upto_region 13 with fail
    clear d0 d1 d2 d3 d4 d5 d6 d7 d8 d9 d10 f0 f1 f2 f3 f4 f5 f6 f7 f8 f9 f10 e0 e1 e2 e3 e4 e5 e6 e7 e8 e9 e10 e11
    have HQ : Hid (Fr [] w2.drew w2.drew) := Lib.hid (Fr.refl _ _)
    have aq : w2.drew.cell? ⟨b, 0, none⟩ = some _ := cell_of_row w2.drew b 0 _ 94 _ R2.out
    have qq : w2.drew.frozen? ⟨b, 0, none⟩ = false := frozen_of_row w2.drew b 0 _ 94 R2.out
    obtain ⟨-, eq1, eq2, eq3, eq4, eq5, eq6, eq7, eq8, -⟩ := box_all (w := w2.drew) N2.out
    go_region_law (first
      | (go_simp; go_at_call 42; refine (HE.out _).mono ?_; rintro e w3 ⟨rfl, hf3⟩; have HQ := Lib.hid (HQ.out.trans hf3); have RQ := Lib.hid (R2.out.drew.fr HQ.out (by simp)); have aq := cell_of_row w3 b 0 _ 94 _ RQ.out; have qq := frozen_of_row w3 b 0 _ 94 RQ.out; obtain ⟨-, eq1, eq2, eq3, eq4, eq5, eq6, eq7, eq8, -⟩ := box_all (HQ.out.blk N2.out (by simp)); clear hf3))
    all_goals
      go_simp
      go_wp2
      go_ret
      exact ⟨rfl, RQ.out.set 0 _, (((F2.out.drew).trans (HQ.out.sub (by simp))).setCell (.inl (by simp)) _)⟩
set_option maxRecDepth 100000 in
set_option maxHeartbeats 100000000 in
theorem spl_5_strict (op : Int) (b : Nat) (B : List UInt8) (s0 : Nat) (K : List UInt8) (err out : Bool) (pr : Int) (bg : Bool) (key value s : ByteArray) (k vn : Int) (u f : Nat) (x : Bool) (n m : Int) (hB : B.length ≤ 100000000) (w : World) (bad : Bool) (stl : Bool) (z : Bool) (hop : op = 0 ∨ op = 9) (hK : ∀ w, Calls Tryz.prog 29 #[.string key] w fun e w' => e = .returned (.bool true) ∧ w' = w) (X : List UInt8) (hX : X.length ≤ 1000000) (hE : ∀ w, Calls Tryz.prog 42 #[.int .i64 0, .string key] w fun e w' => e = .returned (.string ⟨X.toArray⟩) ∧ Fr [] w w')
    (h : SR w b #[.string ⟨B.toArray⟩, .int .i64 s0, .int .i64 5, .bool bad, .string ⟨K.toArray⟩, .bool err, .bool out, .bool false, .int .i64 pr, .bool bg, .bool stl]) :
    Calls Tryz.prog 52 #[.pointer (some ⟨b, 0, none⟩), .agg #[.int .i64 op, .string key, .string value, .int .i64 k, .string s, .int .i64 vn, .int .u64 u, .float .f64 f, .bool x, .int .i64 n, .int .i64 m, .bool z]] w fun e w' => e = .returned (.bool true) ∧ SR w' b #[.string ⟨((B) ++ X).toArray⟩, .int .i64 ((B).length : Nat), .int .i64 1, .bool false, .string ⟨#[]⟩, .bool err, .bool out, .bool false, .int .i64 pr, .bool true, .bool false] ∧ Fr [b] w w' := by
  have HK := Lib.hid hK
  clear hK
  have HE := Lib.hid hE
  clear hE
  generalize hR : B ++ X = RES
  have hadd : ∀ w, (Op.stringOp .add ⟨B.toArray⟩ ⟨X.toArray⟩).run Tryz.prog w = .ok (.string ⟨RES.toArray⟩) w := fun w => by rw [← hR]; exact cat_lists w B X (by omega)
  clear hR
  obtain ⟨w1, HA, HN, hw1⟩ : ∃ q, Fr [] w q ∧ q.heap[w.heap.size]? = some (.cells #[.int .i64 op, .string key, .string value, .int .i64 k, .string s, .int .i64 vn, .int .u64 u, .float .f64 f, .bool x, .int .i64 n, .int .i64 m, .bool z] 38 (0, 0)) ∧ w.alloc (.cells #[.int .i64 op, .string key, .string value, .int .i64 k, .string s, .int .i64 vn, .int .u64 u, .float .f64 f, .bool x, .int .i64 n, .int .i64 m, .bool z] 38) = q := ⟨_, (Fr.refl [] w).alloc _, heap_alloc_new _ _, rfl⟩
  have hbl : b < w.heap.size := (Array.getElem?_eq_some_iff.1 h).1
  have hbg : ¬ b = w.heap.size := by omega
  have hgb : ¬ w.heap.size = b := by omega
  have R1 := Lib.hid (h.fr HA (by simp))
  have N1 := Lib.hid HN
  have F1 : Hid (Fr [b] w w1) := Lib.hid (HA.sub (by simp))
  have HW := Lib.hid hw1
  clear h hbl HA HN hw1
  rcases hop with rfl | rfl
  all_goals
    go_enter Tryz.func52, Tryz.ntmps52
    go_upto_region 4 with fail
    rw [HW.out]
    clear HW
    obtain ⟨⟨d0, d1, d2, d3, d4, d5, d6, d7, d8, d9, d10⟩, f0, f1, f2, f3, f4, f5, f6, f7, f8, f9, f10⟩ := R1.out.all
    obtain ⟨e0, e1, e2, e3, e4, e5, e6, e7, e8, e9, e10, e11⟩ := box_all N1.out
    go_upto_region 5 with fail
    go_upto_region 6 with fail
    go_upto_region 8 with fail
    go_upto_region 9 with fail
    go_upto_region 11 with (go_at_call 29; refine (HK.out _).mono ?_; rintro e wz ⟨rfl, rfl⟩)
    obtain ⟨w2, hw⟩ : ∃ q, q = ((((((w1).setCell ⟨b, 2, none⟩ (.int .i64 1)).setCell ⟨b, 4, none⟩ (.string ⟨#[]⟩)).setCell ⟨b, 1, none⟩ (.int .i64 B.length)).setCell ⟨b, 3, none⟩ (.bool false)).setCell ⟨b, 9, none⟩ (.bool true)).setCell ⟨b, 10, none⟩ (.bool false) := ⟨_, rfl⟩
    have R2 : Hid (SR w2 b #[.string ⟨B.toArray⟩, .int .i64 B.length, .int .i64 1, .bool false, .string ⟨#[]⟩, .bool err, .bool out, .bool false, .int .i64 pr, .bool true, .bool false]) := Lib.hid (by rw [hw]; exact ((((((R1.out.set 2 _).set 4 _).set 1 _).set 3 _).set 9 _).set 10 _))
    have FX : Fr [b] w1 w2 := by
      rw [hw]
      repeat (refine Fr.setCell ?_ (.inl (by simp)) _)
      exact Fr.refl _ _
    have N2 := Lib.hid (FX.blk N1.out (by simpa using hgb))
    have F2 := Lib.hid (F1.out.trans FX)
    rw [← hw]
    clear hw FX
    clear d0 d1 d2 d3 d4 d5 d6 d7 d8 d9 d10 f0 f1 f2 f3 f4 f5 f6 f7 f8 f9 f10 e0 e1 e2 e3 e4 e5 e6 e7 e8 e9 e10 e11
    obtain ⟨⟨d0, d1, d2, d3, d4, d5, d6, d7, d8, d9, d10⟩, f0, f1, f2, f3, f4, f5, f6, f7, f8, f9, f10⟩ := R2.out.all
    obtain ⟨e0, e1, e2, e3, e4, e5, e6, e7, e8, e9, e10, e11⟩ := box_all N2.out
    go_upto_region 13 with fail
    clear d0 d1 d2 d3 d4 d5 d6 d7 d8 d9 d10 f0 f1 f2 f3 f4 f5 f6 f7 f8 f9 f10 e0 e1 e2 e3 e4 e5 e6 e7 e8 e9 e10 e11
    have HQ : Hid (Fr [] w2.drew w2.drew) := Lib.hid (Fr.refl _ _)
    have aq : w2.drew.cell? ⟨b, 0, none⟩ = some _ := cell_of_row w2.drew b 0 _ 94 _ R2.out
    have qq : w2.drew.frozen? ⟨b, 0, none⟩ = false := frozen_of_row w2.drew b 0 _ 94 R2.out
    obtain ⟨-, eq1, eq2, eq3, eq4, eq5, eq6, eq7, eq8, -⟩ := box_all (w := w2.drew) N2.out
    go_region_law (first
      | (go_simp; go_at_call 42; refine (HE.out _).mono ?_; rintro e w3 ⟨rfl, hf3⟩; have HQ := Lib.hid (HQ.out.trans hf3); have RQ := Lib.hid (R2.out.drew.fr HQ.out (by simp)); have aq := cell_of_row w3 b 0 _ 94 _ RQ.out; have qq := frozen_of_row w3 b 0 _ 94 RQ.out; obtain ⟨-, eq1, eq2, eq3, eq4, eq5, eq6, eq7, eq8, -⟩ := box_all (HQ.out.blk N2.out (by simp)); clear hf3))
    all_goals
      go_simp
      go_wp2
      go_ret
      exact ⟨rfl, RQ.out.set 0 _, (((F2.out.drew).trans (HQ.out.sub (by simp))).setCell (.inl (by simp)) _)⟩
set_option maxRecDepth 100000 in
set_option maxHeartbeats 100000000 in
theorem spl_x_fail (op : Int) (b : Nat) (B : List UInt8) (s0 : Nat) (pt : Int) (K : List UInt8) (err out : Bool) (pr : Int) (bg : Bool) (key value s : ByteArray) (k vn : Int) (u f : Nat) (x : Bool) (n m : Int) (w : World) (bad : Bool) (stl : Bool) (z : Bool) (hop : op = 0 ∨ op = 9) (p1 : (pt == 1) = false) (hK : ∀ w, Calls Tryz.prog 29 #[.string key] w fun e w' => e = .returned (.bool false) ∧ w' = w)
    (h : SR w b #[.string ⟨B.toArray⟩, .int .i64 s0, .int .i64 pt, .bool bad, .string ⟨K.toArray⟩, .bool err, .bool out, .bool false, .int .i64 pr, .bool bg, .bool stl]) :
    Calls Tryz.prog 52 #[.pointer (some ⟨b, 0, none⟩), .agg #[.int .i64 op, .string key, .string value, .int .i64 k, .string s, .int .i64 vn, .int .u64 u, .float .f64 f, .bool x, .int .i64 n, .int .i64 m, .bool z]] w fun e w' => e = .returned (.bool true) ∧ SR w' b (failRow (B) (B).length 1 (.string ⟨#[]⟩) err out false (.bool false) (.int .i64 pr) (.bool true)) ∧ Fr [b] w w' := by
  have HK := Lib.hid hK
  clear hK
  obtain ⟨w1, HA, HN, hw1⟩ : ∃ q, Fr [] w q ∧ q.heap[w.heap.size]? = some (.cells #[.int .i64 op, .string key, .string value, .int .i64 k, .string s, .int .i64 vn, .int .u64 u, .float .f64 f, .bool x, .int .i64 n, .int .i64 m, .bool z] 38 (0, 0)) ∧ w.alloc (.cells #[.int .i64 op, .string key, .string value, .int .i64 k, .string s, .int .i64 vn, .int .u64 u, .float .f64 f, .bool x, .int .i64 n, .int .i64 m, .bool z] 38) = q := ⟨_, (Fr.refl [] w).alloc _, heap_alloc_new _ _, rfl⟩
  have hbl : b < w.heap.size := (Array.getElem?_eq_some_iff.1 h).1
  have hbg : ¬ b = w.heap.size := by omega
  have hgb : ¬ w.heap.size = b := by omega
  have R1 := Lib.hid (h.fr HA (by simp))
  have N1 := Lib.hid HN
  have F1 : Hid (Fr [b] w w1) := Lib.hid (HA.sub (by simp))
  have HW := Lib.hid hw1
  clear h hbl HA HN hw1
  rcases hop with rfl | rfl
  all_goals
    go_enter Tryz.func52, Tryz.ntmps52
    go_upto_region 4 with fail
    rw [HW.out]
    clear HW
    obtain ⟨⟨d0, d1, d2, d3, d4, d5, d6, d7, d8, d9, d10⟩, f0, f1, f2, f3, f4, f5, f6, f7, f8, f9, f10⟩ := R1.out.all
    obtain ⟨e0, e1, e2, e3, e4, e5, e6, e7, e8, e9, e10, e11⟩ := box_all N1.out
    go_upto_region 5 with fail
    go_upto_region 6 with fail
    go_upto_region 8 with fail
    go_upto_region 9 with fail
    go_upto_region 10 with (go_at_call 29; refine (HK.out _).mono ?_; rintro e wz ⟨rfl, rfl⟩)
    go_wp2_with (go_at_call 92; refine (fails_any b B B.length (Nat.le_refl _) 1 false (.string ⟨#[]⟩) err out false (.bool false) (.int .i64 pr) (.bool true) _ ((((((R1.out.set 2 _).set 4 _).set 1 _).set 3 _).set 9 _).set 10 _)).mono ?_; rintro e wk ⟨rfl, hr, hf⟩; have HR := Lib.hid hr; have HF := Lib.hid hf; clear hr hf)
    go_ret
    refine ⟨rfl, HR.out, Fr.trans ?_ HF.out⟩
    repeat (refine Fr.setCell ?_ (.inl (by simp)) _)
    exact F1.out
set_option maxRecDepth 100000 in
set_option maxHeartbeats 100000000 in
theorem spl_x_lax (op : Int) (b : Nat) (B : List UInt8) (s0 : Nat) (pt : Int) (K : List UInt8) (err out : Bool) (pr : Int) (bg : Bool) (key value s : ByteArray) (k vn : Int) (u f : Nat) (x : Bool) (n m : Int) (hB : B.length ≤ 100000000) (w : World) (bad : Bool) (stl : Bool) (z : Bool) (hop : op = 0 ∨ op = 9) (p0 : (pt != 0) = true) (p1 : (pt == 1) = false) (p5 : (pt != 5) = true) (X : List UInt8) (hX : X.length ≤ 1000000) (hE : ∀ w, Calls Tryz.prog 42 #[.int .i64 0, .string key] w fun e w' => e = .returned (.string ⟨X.toArray⟩) ∧ Fr [] w w')
    (h : SR w b #[.string ⟨B.toArray⟩, .int .i64 s0, .int .i64 pt, .bool bad, .string ⟨K.toArray⟩, .bool err, .bool out, .bool true, .int .i64 pr, .bool bg, .bool stl]) :
    Calls Tryz.prog 52 #[.pointer (some ⟨b, 0, none⟩), .agg #[.int .i64 op, .string key, .string value, .int .i64 k, .string s, .int .i64 vn, .int .u64 u, .float .f64 f, .bool x, .int .i64 n, .int .i64 m, .bool z]] w fun e w' => e = .returned (.bool true) ∧ SR w' b #[.string ⟨(((B) ++ [10]) ++ X).toArray⟩, .int .i64 ((B).length : Nat), .int .i64 1, .bool false, .string ⟨#[]⟩, .bool err, .bool out, .bool true, .int .i64 pr, .bool true, .bool false] ∧ Fr [b] w w' := by
  have HE := Lib.hid hE
  clear hE
  generalize hD : B ++ [10] = D
  have hDl : D.length ≤ 100000001 := by rw [← hD, List.length_append, List.length_singleton]; omega
  have HD := Lib.hid hD; clear hD
  generalize hR : D ++ X = RES
  have hadd : ∀ w, (Op.stringOp .add ⟨D.toArray⟩ ⟨X.toArray⟩).run Tryz.prog w = .ok (.string ⟨RES.toArray⟩) w := fun w => by rw [← hR]; exact cat_lists w D X (by omega)
  clear hR
  obtain ⟨w1, HA, HN, hw1⟩ : ∃ q, Fr [] w q ∧ q.heap[w.heap.size]? = some (.cells #[.int .i64 op, .string key, .string value, .int .i64 k, .string s, .int .i64 vn, .int .u64 u, .float .f64 f, .bool x, .int .i64 n, .int .i64 m, .bool z] 38 (0, 0)) ∧ w.alloc (.cells #[.int .i64 op, .string key, .string value, .int .i64 k, .string s, .int .i64 vn, .int .u64 u, .float .f64 f, .bool x, .int .i64 n, .int .i64 m, .bool z] 38) = q := ⟨_, (Fr.refl [] w).alloc _, heap_alloc_new _ _, rfl⟩
  have hbl : b < w.heap.size := (Array.getElem?_eq_some_iff.1 h).1
  have hbg : ¬ b = w.heap.size := by omega
  have hgb : ¬ w.heap.size = b := by omega
  have R1 := Lib.hid (h.fr HA (by simp))
  have N1 := Lib.hid HN
  have F1 : Hid (Fr [b] w w1) := Lib.hid (HA.sub (by simp))
  have HW := Lib.hid hw1
  clear h hbl HA HN hw1
  rcases hop with rfl | rfl
  all_goals
    go_enter Tryz.func52, Tryz.ntmps52
    go_upto_region 4 with fail
    rw [HW.out]
    clear HW
    obtain ⟨⟨d0, d1, d2, d3, d4, d5, d6, d7, d8, d9, d10⟩, f0, f1, f2, f3, f4, f5, f6, f7, f8, f9, f10⟩ := R1.out.all
    obtain ⟨e0, e1, e2, e3, e4, e5, e6, e7, e8, e9, e10, e11⟩ := box_all N1.out
    go_upto_region 5 with fail
    go_upto_region 6 with fail
    go_upto_region 8 with fail
    go_upto_region 9 with fail
    go_upto_region 11 with fail
    obtain ⟨w2, hw⟩ : ∃ q, q = ((((((w1).setCell ⟨b, 2, none⟩ (.int .i64 1)).setCell ⟨b, 4, none⟩ (.string ⟨#[]⟩)).setCell ⟨b, 1, none⟩ (.int .i64 B.length)).setCell ⟨b, 3, none⟩ (.bool false)).setCell ⟨b, 9, none⟩ (.bool true)).setCell ⟨b, 10, none⟩ (.bool false) := ⟨_, rfl⟩
    have R2 : Hid (SR w2 b #[.string ⟨B.toArray⟩, .int .i64 B.length, .int .i64 1, .bool false, .string ⟨#[]⟩, .bool err, .bool out, .bool true, .int .i64 pr, .bool true, .bool false]) := Lib.hid (by rw [hw]; exact ((((((R1.out.set 2 _).set 4 _).set 1 _).set 3 _).set 9 _).set 10 _))
    have FX : Fr [b] w1 w2 := by
      rw [hw]
      repeat (refine Fr.setCell ?_ (.inl (by simp)) _)
      exact Fr.refl _ _
    have N2 := Lib.hid (FX.blk N1.out (by simpa using hgb))
    have F2 := Lib.hid (F1.out.trans FX)
    rw [← hw]
    clear hw FX
    clear d0 d1 d2 d3 d4 d5 d6 d7 d8 d9 d10 f0 f1 f2 f3 f4 f5 f6 f7 f8 f9 f10 e0 e1 e2 e3 e4 e5 e6 e7 e8 e9 e10 e11
    obtain ⟨⟨d0, d1, d2, d3, d4, d5, d6, d7, d8, d9, d10⟩, f0, f1, f2, f3, f4, f5, f6, f7, f8, f9, f10⟩ := R2.out.all
    obtain ⟨e0, e1, e2, e3, e4, e5, e6, e7, e8, e9, e10, e11⟩ := box_all N2.out
    have hadd0 : ∀ w, (Op.stringOp .add ⟨B.toArray⟩ ⟨#[10]⟩).run Tryz.prog w = .ok (.string ⟨D.toArray⟩) w := fun w => by rw [← HD.out]; exact cat_lists w B [10] (by simp only [List.length_cons, List.length_nil]; omega)
    go_upto_region 13 with fail
    obtain ⟨w3, hw⟩ : ∃ q, q = (w2).setCell ⟨b, 0, none⟩ (.string ⟨D.toArray⟩) := ⟨_, rfl⟩
    have R3 : Hid (SR w3 b #[.string ⟨D.toArray⟩, .int .i64 B.length, .int .i64 1, .bool false, .string ⟨#[]⟩, .bool err, .bool out, .bool true, .int .i64 pr, .bool true, .bool false]) := Lib.hid (by rw [hw]; exact (R2.out.set 0 _))
    have FX : Fr [b] w2 w3 := by
      rw [hw]
      repeat (refine Fr.setCell ?_ (.inl (by simp)) _)
      exact Fr.refl _ _
    have N3 := Lib.hid (FX.blk N2.out (by simpa using hgb))
    have F3 := Lib.hid (F2.out.trans FX)
    rw [← hw]
    clear hw FX
    clear d0 d1 d2 d3 d4 d5 d6 d7 d8 d9 d10 f0 f1 f2 f3 f4 f5 f6 f7 f8 f9 f10 e0 e1 e2 e3 e4 e5 e6 e7 e8 e9 e10 e11
    obtain ⟨⟨d0, d1, d2, d3, d4, d5, d6, d7, d8, d9, d10⟩, f0, f1, f2, f3, f4, f5, f6, f7, f8, f9, f10⟩ := R3.out.all
    obtain ⟨e0, e1, e2, e3, e4, e5, e6, e7, e8, e9, e10, e11⟩ := box_all N3.out
    clear p0 p1 p5 hadd0
    clear d0 d1 d2 d3 d4 d5 d6 d7 d8 d9 d10 f0 f1 f2 f3 f4 f5 f6 f7 f8 f9 f10 e0 e1 e2 e3 e4 e5 e6 e7 e8 e9 e10 e11
    have HQ : Hid (Fr [] w3.drew w3.drew) := Lib.hid (Fr.refl _ _)
    have aq : w3.drew.cell? ⟨b, 0, none⟩ = some _ := cell_of_row w3.drew b 0 _ 94 _ R3.out
    have qq : w3.drew.frozen? ⟨b, 0, none⟩ = false := frozen_of_row w3.drew b 0 _ 94 R3.out
    obtain ⟨-, eq1, eq2, eq3, eq4, eq5, eq6, eq7, eq8, -⟩ := box_all (w := w3.drew) N3.out
    go_region_law (first
      | (go_simp; go_at_call 42; refine (HE.out _).mono ?_; rintro e w3 ⟨rfl, hf3⟩; have HQ := Lib.hid (HQ.out.trans hf3); have RQ := Lib.hid (R3.out.drew.fr HQ.out (by simp)); have aq := cell_of_row w3 b 0 _ 94 _ RQ.out; have qq := frozen_of_row w3 b 0 _ 94 RQ.out; obtain ⟨-, eq1, eq2, eq3, eq4, eq5, eq6, eq7, eq8, -⟩ := box_all (HQ.out.blk N3.out (by simp)); clear hf3))
    all_goals
      go_simp
      go_wp2
      go_ret
      exact ⟨rfl, RQ.out.set 0 _, (((F3.out.drew).trans (HQ.out.sub (by simp))).setCell (.inl (by simp)) _)⟩
set_option maxRecDepth 100000 in
set_option maxHeartbeats 100000000 in
theorem spl_x_strict (op : Int) (b : Nat) (B : List UInt8) (s0 : Nat) (pt : Int) (K : List UInt8) (err out : Bool) (pr : Int) (bg : Bool) (key value s : ByteArray) (k vn : Int) (u f : Nat) (x : Bool) (n m : Int) (hB : B.length ≤ 100000000) (w : World) (bad : Bool) (stl : Bool) (z : Bool) (hop : op = 0 ∨ op = 9) (p0 : (pt != 0) = true) (p1 : (pt == 1) = false) (p5 : (pt != 5) = true) (hK : ∀ w, Calls Tryz.prog 29 #[.string key] w fun e w' => e = .returned (.bool true) ∧ w' = w) (X : List UInt8) (hX : X.length ≤ 1000000) (hE : ∀ w, Calls Tryz.prog 42 #[.int .i64 0, .string key] w fun e w' => e = .returned (.string ⟨X.toArray⟩) ∧ Fr [] w w')
    (h : SR w b #[.string ⟨B.toArray⟩, .int .i64 s0, .int .i64 pt, .bool bad, .string ⟨K.toArray⟩, .bool err, .bool out, .bool false, .int .i64 pr, .bool bg, .bool stl]) :
    Calls Tryz.prog 52 #[.pointer (some ⟨b, 0, none⟩), .agg #[.int .i64 op, .string key, .string value, .int .i64 k, .string s, .int .i64 vn, .int .u64 u, .float .f64 f, .bool x, .int .i64 n, .int .i64 m, .bool z]] w fun e w' => e = .returned (.bool true) ∧ SR w' b #[.string ⟨(((B) ++ [10]) ++ X).toArray⟩, .int .i64 ((B).length : Nat), .int .i64 1, .bool false, .string ⟨#[]⟩, .bool err, .bool out, .bool false, .int .i64 pr, .bool true, .bool false] ∧ Fr [b] w w' := by
  have HK := Lib.hid hK
  clear hK
  have HE := Lib.hid hE
  clear hE
  generalize hD : B ++ [10] = D
  have hDl : D.length ≤ 100000001 := by rw [← hD, List.length_append, List.length_singleton]; omega
  have HD := Lib.hid hD; clear hD
  generalize hR : D ++ X = RES
  have hadd : ∀ w, (Op.stringOp .add ⟨D.toArray⟩ ⟨X.toArray⟩).run Tryz.prog w = .ok (.string ⟨RES.toArray⟩) w := fun w => by rw [← hR]; exact cat_lists w D X (by omega)
  clear hR
  obtain ⟨w1, HA, HN, hw1⟩ : ∃ q, Fr [] w q ∧ q.heap[w.heap.size]? = some (.cells #[.int .i64 op, .string key, .string value, .int .i64 k, .string s, .int .i64 vn, .int .u64 u, .float .f64 f, .bool x, .int .i64 n, .int .i64 m, .bool z] 38 (0, 0)) ∧ w.alloc (.cells #[.int .i64 op, .string key, .string value, .int .i64 k, .string s, .int .i64 vn, .int .u64 u, .float .f64 f, .bool x, .int .i64 n, .int .i64 m, .bool z] 38) = q := ⟨_, (Fr.refl [] w).alloc _, heap_alloc_new _ _, rfl⟩
  have hbl : b < w.heap.size := (Array.getElem?_eq_some_iff.1 h).1
  have hbg : ¬ b = w.heap.size := by omega
  have hgb : ¬ w.heap.size = b := by omega
  have R1 := Lib.hid (h.fr HA (by simp))
  have N1 := Lib.hid HN
  have F1 : Hid (Fr [b] w w1) := Lib.hid (HA.sub (by simp))
  have HW := Lib.hid hw1
  clear h hbl HA HN hw1
  rcases hop with rfl | rfl
  all_goals
    go_enter Tryz.func52, Tryz.ntmps52
    go_upto_region 4 with fail
    rw [HW.out]
    clear HW
    obtain ⟨⟨d0, d1, d2, d3, d4, d5, d6, d7, d8, d9, d10⟩, f0, f1, f2, f3, f4, f5, f6, f7, f8, f9, f10⟩ := R1.out.all
    obtain ⟨e0, e1, e2, e3, e4, e5, e6, e7, e8, e9, e10, e11⟩ := box_all N1.out
    go_upto_region 5 with fail
    go_upto_region 6 with fail
    go_upto_region 8 with fail
    go_upto_region 9 with fail
    go_upto_region 11 with (go_at_call 29; refine (HK.out _).mono ?_; rintro e wz ⟨rfl, rfl⟩)
    obtain ⟨w2, hw⟩ : ∃ q, q = ((((((w1).setCell ⟨b, 2, none⟩ (.int .i64 1)).setCell ⟨b, 4, none⟩ (.string ⟨#[]⟩)).setCell ⟨b, 1, none⟩ (.int .i64 B.length)).setCell ⟨b, 3, none⟩ (.bool false)).setCell ⟨b, 9, none⟩ (.bool true)).setCell ⟨b, 10, none⟩ (.bool false) := ⟨_, rfl⟩
    have R2 : Hid (SR w2 b #[.string ⟨B.toArray⟩, .int .i64 B.length, .int .i64 1, .bool false, .string ⟨#[]⟩, .bool err, .bool out, .bool false, .int .i64 pr, .bool true, .bool false]) := Lib.hid (by rw [hw]; exact ((((((R1.out.set 2 _).set 4 _).set 1 _).set 3 _).set 9 _).set 10 _))
    have FX : Fr [b] w1 w2 := by
      rw [hw]
      repeat (refine Fr.setCell ?_ (.inl (by simp)) _)
      exact Fr.refl _ _
    have N2 := Lib.hid (FX.blk N1.out (by simpa using hgb))
    have F2 := Lib.hid (F1.out.trans FX)
    rw [← hw]
    clear hw FX
    clear d0 d1 d2 d3 d4 d5 d6 d7 d8 d9 d10 f0 f1 f2 f3 f4 f5 f6 f7 f8 f9 f10 e0 e1 e2 e3 e4 e5 e6 e7 e8 e9 e10 e11
    obtain ⟨⟨d0, d1, d2, d3, d4, d5, d6, d7, d8, d9, d10⟩, f0, f1, f2, f3, f4, f5, f6, f7, f8, f9, f10⟩ := R2.out.all
    obtain ⟨e0, e1, e2, e3, e4, e5, e6, e7, e8, e9, e10, e11⟩ := box_all N2.out
    have hadd0 : ∀ w, (Op.stringOp .add ⟨B.toArray⟩ ⟨#[10]⟩).run Tryz.prog w = .ok (.string ⟨D.toArray⟩) w := fun w => by rw [← HD.out]; exact cat_lists w B [10] (by simp only [List.length_cons, List.length_nil]; omega)
    go_upto_region 13 with fail
    obtain ⟨w3, hw⟩ : ∃ q, q = (w2).setCell ⟨b, 0, none⟩ (.string ⟨D.toArray⟩) := ⟨_, rfl⟩
    have R3 : Hid (SR w3 b #[.string ⟨D.toArray⟩, .int .i64 B.length, .int .i64 1, .bool false, .string ⟨#[]⟩, .bool err, .bool out, .bool false, .int .i64 pr, .bool true, .bool false]) := Lib.hid (by rw [hw]; exact (R2.out.set 0 _))
    have FX : Fr [b] w2 w3 := by
      rw [hw]
      repeat (refine Fr.setCell ?_ (.inl (by simp)) _)
      exact Fr.refl _ _
    have N3 := Lib.hid (FX.blk N2.out (by simpa using hgb))
    have F3 := Lib.hid (F2.out.trans FX)
    rw [← hw]
    clear hw FX
    clear d0 d1 d2 d3 d4 d5 d6 d7 d8 d9 d10 f0 f1 f2 f3 f4 f5 f6 f7 f8 f9 f10 e0 e1 e2 e3 e4 e5 e6 e7 e8 e9 e10 e11
    obtain ⟨⟨d0, d1, d2, d3, d4, d5, d6, d7, d8, d9, d10⟩, f0, f1, f2, f3, f4, f5, f6, f7, f8, f9, f10⟩ := R3.out.all
    obtain ⟨e0, e1, e2, e3, e4, e5, e6, e7, e8, e9, e10, e11⟩ := box_all N3.out
    clear p0 p1 p5 hadd0
    clear d0 d1 d2 d3 d4 d5 d6 d7 d8 d9 d10 f0 f1 f2 f3 f4 f5 f6 f7 f8 f9 f10 e0 e1 e2 e3 e4 e5 e6 e7 e8 e9 e10 e11
    have HQ : Hid (Fr [] w3.drew w3.drew) := Lib.hid (Fr.refl _ _)
    have aq : w3.drew.cell? ⟨b, 0, none⟩ = some _ := cell_of_row w3.drew b 0 _ 94 _ R3.out
    have qq : w3.drew.frozen? ⟨b, 0, none⟩ = false := frozen_of_row w3.drew b 0 _ 94 R3.out
    obtain ⟨-, eq1, eq2, eq3, eq4, eq5, eq6, eq7, eq8, -⟩ := box_all (w := w3.drew) N3.out
    go_region_law (first
      | (go_simp; go_at_call 42; refine (HE.out _).mono ?_; rintro e w3 ⟨rfl, hf3⟩; have HQ := Lib.hid (HQ.out.trans hf3); have RQ := Lib.hid (R3.out.drew.fr HQ.out (by simp)); have aq := cell_of_row w3 b 0 _ 94 _ RQ.out; have qq := frozen_of_row w3 b 0 _ 94 RQ.out; obtain ⟨-, eq1, eq2, eq3, eq4, eq5, eq6, eq7, eq8, -⟩ := box_all (HQ.out.blk N3.out (by simp)); clear hf3))
    all_goals
      go_simp
      go_wp2
      go_ret
      exact ⟨rfl, RQ.out.set 0 _, (((F3.out.drew).trans (HQ.out.sub (by simp))).setCell (.inl (by simp)) _)⟩
end Go.Proofs.YtaaogjhaokaggaaGreatDoor
