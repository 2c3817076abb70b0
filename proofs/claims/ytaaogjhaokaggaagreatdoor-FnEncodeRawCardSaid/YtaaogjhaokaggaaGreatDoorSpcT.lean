import Derived.Test.YtaaogjhaokaggaaGreatDoorSpcF
import Derived.Deep.RegionLaw
import Derived.Deep.CutRange
import Derived.Deep.DeepCutAuto
import Derived.BigQuiet
import Derived.Laws.Concat
namespace Go.Proofs.YtaaogjhaokaggaaGreatDoor
open Go.RowKit

set_option maxRecDepth 100000 in
set_option maxHeartbeats 100000000 in
theorem spt_part_stale (op : Int) (b : Nat) (B : List UInt8) (s0 : Nat) (pt : Int) (K : List UInt8) (err out : Bool) (pr : Int) (bg : Bool) (key value s : ByteArray) (k vn : Int) (u f : Nat) (x : Bool) (n m : Int) (w : World) (lax : Bool) (bad : Bool) (z : Bool) (hop : op = 1 ∨ op = 10) (p1 : ¬ pt = 1)
    (h : SR w b #[.string ⟨B.toArray⟩, .int .i64 s0, .int .i64 pt, .bool bad, .string ⟨K.toArray⟩, .bool err, .bool out, .bool lax, .int .i64 pr, .bool bg, .bool true]) :
    Calls Tryz.prog 52 #[.pointer (some ⟨b, 0, none⟩), .agg #[.int .i64 op, .string key, .string value, .int .i64 k, .string s, .int .i64 vn, .int .u64 u, .float .f64 f, .bool x, .int .i64 n, .int .i64 m, .bool z]] w fun e w' => e = .returned (.bool false) ∧ Fr [b] w w' := by
  obtain ⟨w1, HA, HN, hw1⟩ : ∃ q, Fr [] w q ∧ q.heap[w.heap.size]? = some (.cells #[.int .i64 op, .string key, .string value, .int .i64 k, .string s, .int .i64 vn, .int .u64 u, .float .f64 f, .bool x, .int .i64 n, .int .i64 m, .bool z] 38 (0, 0)) ∧ w.alloc (.cells #[.int .i64 op, .string key, .string value, .int .i64 k, .string s, .int .i64 vn, .int .u64 u, .float .f64 f, .bool x, .int .i64 n, .int .i64 m, .bool z] 38) = q := ⟨_, (Fr.refl [] w).alloc _, heap_alloc_new _ _, rfl⟩
  have hbl : b < w.heap.size := (Array.getElem?_eq_some_iff.1 h).1
  have hbg : ¬ b = w.heap.size := by omega
  have hgb : ¬ w.heap.size = b := by omega
  have R1 := Lib.hid (h.fr HA (by simp))
  have N1 := Lib.hid HN
  have F1 : Hid (Fr [b] w w1) := Lib.hid (HA.sub (by simp))
  have HW := Lib.hid hw1
  clear h hbl HA HN hw1
  rcases hop with rfl | rfl
  all_goals
    go_enter Tryz.func52, Tryz.ntmps52
    go_upto_region 16 with fail
    rw [HW.out]
    clear HW
    obtain ⟨⟨d0, d1, d2, d3, d4, d5, d6, d7, d8, d9, d10⟩, f0, f1, f2, f3, f4, f5, f6, f7, f8, f9, f10⟩ := R1.out.all
    obtain ⟨e0, e1, e2, e3, e4, e5, e6, e7, e8, e9, e10, e11⟩ := box_all N1.out
    go_upto_region 17 with fail
    go_wp2_with (go_at_call 92; refine (fails_stale b _ _ _ _ _ _ _ _ _ _ _ _ R1.out).mono ?_; rintro e wk ⟨rfl, rfl⟩)
    go_ret
    refine ⟨rfl, ?_⟩
    repeat (refine Fr.setCell ?_ (.inl (by simp)) _)
    exact F1.out
set_option maxRecDepth 100000 in
set_option maxHeartbeats 100000000 in
theorem spt_k_stale (op : Int) (b : Nat) (B : List UInt8) (s0 : Nat) (K : List UInt8) (err out : Bool) (pr : Int) (bg : Bool) (key value s : ByteArray) (k vn : Int) (u f : Nat) (x : Bool) (n m : Int) (w : World) (bad : Bool) (z : Bool) (hop : op = 1 ∨ op = 10) (hK : ∀ w, Calls Tryz.prog 29 #[.string key] w fun e w' => e = .returned (.bool false) ∧ w' = w)
    (h : SR w b #[.string ⟨B.toArray⟩, .int .i64 s0, .int .i64 1, .bool bad, .string ⟨K.toArray⟩, .bool err, .bool out, .bool false, .int .i64 pr, .bool bg, .bool true]) :
    Calls Tryz.prog 52 #[.pointer (some ⟨b, 0, none⟩), .agg #[.int .i64 op, .string key, .string value, .int .i64 k, .string s, .int .i64 vn, .int .u64 u, .float .f64 f, .bool x, .int .i64 n, .int .i64 m, .bool z]] w fun e w' => e = .returned (.bool false) ∧ Fr [b] w w' := by
  have HK := Lib.hid hK
  clear hK
  obtain ⟨w1, HA, HN, hw1⟩ : ∃ q, Fr [] w q ∧ q.heap[w.heap.size]? = some (.cells #[.int .i64 op, .string key, .string value, .int .i64 k, .string s, .int .i64 vn, .int .u64 u, .float .f64 f, .bool x, .int .i64 n, .int .i64 m, .bool z] 38 (0, 0)) ∧ w.alloc (.cells #[.int .i64 op, .string key, .string value, .int .i64 k, .string s, .int .i64 vn, .int .u64 u, .float .f64 f, .bool x, .int .i64 n, .int .i64 m, .bool z] 38) = q := ⟨_, (Fr.refl [] w).alloc _, heap_alloc_new _ _, rfl⟩
  have hbl : b < w.heap.size := (Array.getElem?_eq_some_iff.1 h).1
  have hbg : ¬ b = w.heap.size := by omega
  have hgb : ¬ w.heap.size = b := by omega
  have R1 := Lib.hid (h.fr HA (by simp))
  have N1 := Lib.hid HN
  have F1 : Hid (Fr [b] w w1) := Lib.hid (HA.sub (by simp))
  have HW := Lib.hid hw1
  clear h hbl HA HN hw1
  rcases hop with rfl | rfl
  all_goals
    go_enter Tryz.func52, Tryz.ntmps52
    go_upto_region 16 with fail
    rw [HW.out]
    clear HW
    obtain ⟨⟨d0, d1, d2, d3, d4, d5, d6, d7, d8, d9, d10⟩, f0, f1, f2, f3, f4, f5, f6, f7, f8, f9, f10⟩ := R1.out.all
    obtain ⟨e0, e1, e2, e3, e4, e5, e6, e7, e8, e9, e10, e11⟩ := box_all N1.out
    go_upto_region 19 with fail
    go_quiet ((go_at_call 29; exact Calls.quiet_of_same (HK.out _)))
    obtain ⟨w2, hw⟩ : ∃ y, y = w1.drewN nq := ⟨_, rfl⟩
    have R2 : Hid (SR w2 b #[.string ⟨B.toArray⟩, .int .i64 s0, .int .i64 1, .bool bad, .string ⟨K.toArray⟩, .bool err, .bool out, .bool false, .int .i64 pr, .bool bg, .bool true]) := Lib.hid (by rw [hw]; exact R1.out)
    have FXq : Fr [] w1 w2 := by rw [hw]; exact fr_drewN (Fr.refl _ _) nq
    have N2 := Lib.hid (FXq.blk N1.out (by simp))
    clear FXq
    have F2 : Hid (Fr [b] w w2) := Lib.hid (by rw [hw]; exact fr_drewN F1.out nq)
    rw [← hw]
    clear hw
    clear d0 d1 d2 d3 d4 d5 d6 d7 d8 d9 d10 f0 f1 f2 f3 f4 f5 f6 f7 f8 f9 f10 e0 e1 e2 e3 e4 e5 e6 e7 e8 e9 e10 e11
    obtain ⟨⟨d0, d1, d2, d3, d4, d5, d6, d7, d8, d9, d10⟩, f0, f1, f2, f3, f4, f5, f6, f7, f8, f9, f10⟩ := R2.out.all
    obtain ⟨e0, e1, e2, e3, e4, e5, e6, e7, e8, e9, e10, e11⟩ := box_all N2.out
    go_upto_region 20 with fail
    go_wp2_with (go_at_call 92; refine (fails_stale b _ _ _ _ _ _ _ _ _ _ _ _ R2.out).mono ?_; rintro e wk ⟨rfl, rfl⟩)
    go_ret
    refine ⟨rfl, ?_⟩
    repeat (refine Fr.setCell ?_ (.inl (by simp)) _)
    exact F2.out
set_option maxRecDepth 100000 in
set_option maxHeartbeats 100000000 in
theorem spt_v_stale (op : Int) (b : Nat) (B : List UInt8) (s0 : Nat) (K : List UInt8) (err out : Bool) (pr : Int) (bg : Bool) (key value s : ByteArray) (k vn : Int) (u f : Nat) (x : Bool) (n m : Int) (w : World) (bad : Bool) (z : Bool) (hop : op = 1 ∨ op = 10) (hK : ∀ w, Calls Tryz.prog 29 #[.string key] w fun e w' => e = .returned (.bool true) ∧ w' = w) (hV : ∀ w, Calls Tryz.prog 29 #[.string value] w fun e w' => e = .returned (.bool false) ∧ w' = w)
    (h : SR w b #[.string ⟨B.toArray⟩, .int .i64 s0, .int .i64 1, .bool bad, .string ⟨K.toArray⟩, .bool err, .bool out, .bool false, .int .i64 pr, .bool bg, .bool true]) :
    Calls Tryz.prog 52 #[.pointer (some ⟨b, 0, none⟩), .agg #[.int .i64 op, .string key, .string value, .int .i64 k, .string s, .int .i64 vn, .int .u64 u, .float .f64 f, .bool x, .int .i64 n, .int .i64 m, .bool z]] w fun e w' => e = .returned (.bool false) ∧ Fr [b] w w' := by
  have HK := Lib.hid hK
  clear hK
  have HV := Lib.hid hV
  clear hV
  obtain ⟨w1, HA, HN, hw1⟩ : ∃ q, Fr [] w q ∧ q.heap[w.heap.size]? = some (.cells #[.int .i64 op, .string key, .string value, .int .i64 k, .string s, .int .i64 vn, .int .u64 u, .float .f64 f, .bool x, .int .i64 n, .int .i64 m, .bool z] 38 (0, 0)) ∧ w.alloc (.cells #[.int .i64 op, .string key, .string value, .int .i64 k, .string s, .int .i64 vn, .int .u64 u, .float .f64 f, .bool x, .int .i64 n, .int .i64 m, .bool z] 38) = q := ⟨_, (Fr.refl [] w).alloc _, heap_alloc_new _ _, rfl⟩
  have hbl : b < w.heap.size := (Array.getElem?_eq_some_iff.1 h).1
  have hbg : ¬ b = w.heap.size := by omega
  have hgb : ¬ w.heap.size = b := by omega
  have R1 := Lib.hid (h.fr HA (by simp))
  have N1 := Lib.hid HN
  have F1 : Hid (Fr [b] w w1) := Lib.hid (HA.sub (by simp))
  have HW := Lib.hid hw1
  clear h hbl HA HN hw1
  rcases hop with rfl | rfl
  all_goals
    go_enter Tryz.func52, Tryz.ntmps52
    go_upto_region 16 with fail
    rw [HW.out]
    clear HW
    obtain ⟨⟨d0, d1, d2, d3, d4, d5, d6, d7, d8, d9, d10⟩, f0, f1, f2, f3, f4, f5, f6, f7, f8, f9, f10⟩ := R1.out.all
    obtain ⟨e0, e1, e2, e3, e4, e5, e6, e7, e8, e9, e10, e11⟩ := box_all N1.out
    go_upto_region 19 with fail
    go_quiet (first | (go_at_call_of 29 (Value.string key); exact Calls.quiet_of_same (HK.out _)) | (go_at_call_of 29 (Value.string value); exact Calls.quiet_of_same (HV.out _)))
    obtain ⟨w2, hw⟩ : ∃ y, y = w1.drewN nq := ⟨_, rfl⟩
    have R2 : Hid (SR w2 b #[.string ⟨B.toArray⟩, .int .i64 s0, .int .i64 1, .bool bad, .string ⟨K.toArray⟩, .bool err, .bool out, .bool false, .int .i64 pr, .bool bg, .bool true]) := Lib.hid (by rw [hw]; exact R1.out)
    have FXq : Fr [] w1 w2 := by rw [hw]; exact fr_drewN (Fr.refl _ _) nq
    have N2 := Lib.hid (FXq.blk N1.out (by simp))
    clear FXq
    have F2 : Hid (Fr [b] w w2) := Lib.hid (by rw [hw]; exact fr_drewN F1.out nq)
    rw [← hw]
    clear hw
    clear d0 d1 d2 d3 d4 d5 d6 d7 d8 d9 d10 f0 f1 f2 f3 f4 f5 f6 f7 f8 f9 f10 e0 e1 e2 e3 e4 e5 e6 e7 e8 e9 e10 e11
    obtain ⟨⟨d0, d1, d2, d3, d4, d5, d6, d7, d8, d9, d10⟩, f0, f1, f2, f3, f4, f5, f6, f7, f8, f9, f10⟩ := R2.out.all
    obtain ⟨e0, e1, e2, e3, e4, e5, e6, e7, e8, e9, e10, e11⟩ := box_all N2.out
    go_upto_region 20 with fail
    go_wp2_with (go_at_call 92; refine (fails_stale b _ _ _ _ _ _ _ _ _ _ _ _ R2.out).mono ?_; rintro e wk ⟨rfl, rfl⟩)
    go_ret
    refine ⟨rfl, ?_⟩
    repeat (refine Fr.setCell ?_ (.inl (by simp)) _)
    exact F2.out
set_option maxRecDepth 100000 in
set_option maxHeartbeats 100000000 in
theorem spt_l_stale (op : Int) (b : Nat) (B : List UInt8) (s0 : Nat) (K : List UInt8) (err out : Bool) (pr : Int) (bg : Bool) (key value s : ByteArray) (k vn : Int) (u f : Nat) (x : Bool) (n m : Int) (w : World) (bad : Bool) (z : Bool) (hop : op = 1 ∨ op = 10) (hK : ∀ w, Calls Tryz.prog 29 #[.string key] w fun e w' => e = .returned (.bool true) ∧ w' = w) (hV : ∀ w, Calls Tryz.prog 29 #[.string value] w fun e w' => e = .returned (.bool true) ∧ w' = w) (hl1 : Op.bytesLess key.toList K = true)
    (h : SR w b #[.string ⟨B.toArray⟩, .int .i64 s0, .int .i64 1, .bool bad, .string ⟨K.toArray⟩, .bool err, .bool out, .bool false, .int .i64 pr, .bool bg, .bool true]) :
    Calls Tryz.prog 52 #[.pointer (some ⟨b, 0, none⟩), .agg #[.int .i64 op, .string key, .string value, .int .i64 k, .string s, .int .i64 vn, .int .u64 u, .float .f64 f, .bool x, .int .i64 n, .int .i64 m, .bool z]] w fun e w' => e = .returned (.bool false) ∧ Fr [b] w w' := by
  have HK := Lib.hid hK
  clear hK
  have HV := Lib.hid hV
  clear hV
  obtain ⟨w1, HA, HN, hw1⟩ : ∃ q, Fr [] w q ∧ q.heap[w.heap.size]? = some (.cells #[.int .i64 op, .string key, .string value, .int .i64 k, .string s, .int .i64 vn, .int .u64 u, .float .f64 f, .bool x, .int .i64 n, .int .i64 m, .bool z] 38 (0, 0)) ∧ w.alloc (.cells #[.int .i64 op, .string key, .string value, .int .i64 k, .string s, .int .i64 vn, .int .u64 u, .float .f64 f, .bool x, .int .i64 n, .int .i64 m, .bool z] 38) = q := ⟨_, (Fr.refl [] w).alloc _, heap_alloc_new _ _, rfl⟩
  have hbl : b < w.heap.size := (Array.getElem?_eq_some_iff.1 h).1
  have hbg : ¬ b = w.heap.size := by omega
  have hgb : ¬ w.heap.size = b := by omega
  have R1 := Lib.hid (h.fr HA (by simp))
  have N1 := Lib.hid HN
  have F1 : Hid (Fr [b] w w1) := Lib.hid (HA.sub (by simp))
  have HW := Lib.hid hw1
  clear h hbl HA HN hw1
  rcases hop with rfl | rfl
  all_goals
    go_enter Tryz.func52, Tryz.ntmps52
    go_upto_region 16 with fail
    rw [HW.out]
    clear HW
    obtain ⟨⟨d0, d1, d2, d3, d4, d5, d6, d7, d8, d9, d10⟩, f0, f1, f2, f3, f4, f5, f6, f7, f8, f9, f10⟩ := R1.out.all
    obtain ⟨e0, e1, e2, e3, e4, e5, e6, e7, e8, e9, e10, e11⟩ := box_all N1.out
    go_upto_region 19 with fail
    go_quiet (first | (go_at_call_of 29 (Value.string key); exact Calls.quiet_of_same (HK.out _)) | (go_at_call_of 29 (Value.string value); exact Calls.quiet_of_same (HV.out _)))
    obtain ⟨w2, hw⟩ : ∃ y, y = w1.drewN nq := ⟨_, rfl⟩
    have R2 : Hid (SR w2 b #[.string ⟨B.toArray⟩, .int .i64 s0, .int .i64 1, .bool bad, .string ⟨K.toArray⟩, .bool err, .bool out, .bool false, .int .i64 pr, .bool bg, .bool true]) := Lib.hid (by rw [hw]; exact R1.out)
    have FXq : Fr [] w1 w2 := by rw [hw]; exact fr_drewN (Fr.refl _ _) nq
    have N2 := Lib.hid (FXq.blk N1.out (by simp))
    clear FXq
    have F2 : Hid (Fr [b] w w2) := Lib.hid (by rw [hw]; exact fr_drewN F1.out nq)
    rw [← hw]
    clear hw
    clear d0 d1 d2 d3 d4 d5 d6 d7 d8 d9 d10 f0 f1 f2 f3 f4 f5 f6 f7 f8 f9 f10 e0 e1 e2 e3 e4 e5 e6 e7 e8 e9 e10 e11
    obtain ⟨⟨d0, d1, d2, d3, d4, d5, d6, d7, d8, d9, d10⟩, f0, f1, f2, f3, f4, f5, f6, f7, f8, f9, f10⟩ := R2.out.all
    obtain ⟨e0, e1, e2, e3, e4, e5, e6, e7, e8, e9, e10, e11⟩ := box_all N2.out
    go_upto_region 20 with fail
    go_wp2_with (go_at_call 92; refine (fails_stale b _ _ _ _ _ _ _ _ _ _ _ _ R2.out).mono ?_; rintro e wk ⟨rfl, rfl⟩)
    go_ret
    refine ⟨rfl, ?_⟩
    repeat (refine Fr.setCell ?_ (.inl (by simp)) _)
    exact F2.out
set_option maxRecDepth 100000 in
set_option maxHeartbeats 100000000 in
theorem spt_m_stale (op : Int) (b : Nat) (B : List UInt8) (s0 : Nat) (K : List UInt8) (err out : Bool) (pr : Int) (bg : Bool) (key value s : ByteArray) (k vn : Int) (u f : Nat) (x : Bool) (n m : Int) (w : World) (bad : Bool) (z : Bool) (hop : op = 1 ∨ op = 10) (hK : ∀ w, Calls Tryz.prog 29 #[.string key] w fun e w' => e = .returned (.bool true) ∧ w' = w) (hV : ∀ w, Calls Tryz.prog 29 #[.string value] w fun e w' => e = .returned (.bool true) ∧ w' = w) (hl1 : Op.bytesLess key.toList K = false) (hl2 : (key.toList == K) = true)
    (h : SR w b #[.string ⟨B.toArray⟩, .int .i64 s0, .int .i64 1, .bool bad, .string ⟨K.toArray⟩, .bool err, .bool out, .bool false, .int .i64 pr, .bool bg, .bool true]) :
    Calls Tryz.prog 52 #[.pointer (some ⟨b, 0, none⟩), .agg #[.int .i64 op, .string key, .string value, .int .i64 k, .string s, .int .i64 vn, .int .u64 u, .float .f64 f, .bool x, .int .i64 n, .int .i64 m, .bool z]] w fun e w' => e = .returned (.bool false) ∧ Fr [b] w w' := by
  have HK := Lib.hid hK
  clear hK
  have HV := Lib.hid hV
  clear hV
  obtain ⟨w1, HA, HN, hw1⟩ : ∃ q, Fr [] w q ∧ q.heap[w.heap.size]? = some (.cells #[.int .i64 op, .string key, .string value, .int .i64 k, .string s, .int .i64 vn, .int .u64 u, .float .f64 f, .bool x, .int .i64 n, .int .i64 m, .bool z] 38 (0, 0)) ∧ w.alloc (.cells #[.int .i64 op, .string key, .string value, .int .i64 k, .string s, .int .i64 vn, .int .u64 u, .float .f64 f, .bool x, .int .i64 n, .int .i64 m, .bool z] 38) = q := ⟨_, (Fr.refl [] w).alloc _, heap_alloc_new _ _, rfl⟩
  have hbl : b < w.heap.size := (Array.getElem?_eq_some_iff.1 h).1
  have hbg : ¬ b = w.heap.size := by omega
  have hgb : ¬ w.heap.size = b := by omega
  have R1 := Lib.hid (h.fr HA (by simp))
  have N1 := Lib.hid HN
  have F1 : Hid (Fr [b] w w1) := Lib.hid (HA.sub (by simp))
  have HW := Lib.hid hw1
  clear h hbl HA HN hw1
  rcases hop with rfl | rfl
  all_goals
    go_enter Tryz.func52, Tryz.ntmps52
    go_upto_region 16 with fail
    rw [HW.out]
    clear HW
    obtain ⟨⟨d0, d1, d2, d3, d4, d5, d6, d7, d8, d9, d10⟩, f0, f1, f2, f3, f4, f5, f6, f7, f8, f9, f10⟩ := R1.out.all
    obtain ⟨e0, e1, e2, e3, e4, e5, e6, e7, e8, e9, e10, e11⟩ := box_all N1.out
    go_upto_region 19 with fail
    go_quiet (first | (go_at_call_of 29 (Value.string key); exact Calls.quiet_of_same (HK.out _)) | (go_at_call_of 29 (Value.string value); exact Calls.quiet_of_same (HV.out _)))
    obtain ⟨w2, hw⟩ : ∃ y, y = w1.drewN nq := ⟨_, rfl⟩
    have R2 : Hid (SR w2 b #[.string ⟨B.toArray⟩, .int .i64 s0, .int .i64 1, .bool bad, .string ⟨K.toArray⟩, .bool err, .bool out, .bool false, .int .i64 pr, .bool bg, .bool true]) := Lib.hid (by rw [hw]; exact R1.out)
    have FXq : Fr [] w1 w2 := by rw [hw]; exact fr_drewN (Fr.refl _ _) nq
    have N2 := Lib.hid (FXq.blk N1.out (by simp))
    clear FXq
    have F2 : Hid (Fr [b] w w2) := Lib.hid (by rw [hw]; exact fr_drewN F1.out nq)
    rw [← hw]
    clear hw
    clear d0 d1 d2 d3 d4 d5 d6 d7 d8 d9 d10 f0 f1 f2 f3 f4 f5 f6 f7 f8 f9 f10 e0 e1 e2 e3 e4 e5 e6 e7 e8 e9 e10 e11
    obtain ⟨⟨d0, d1, d2, d3, d4, d5, d6, d7, d8, d9, d10⟩, f0, f1, f2, f3, f4, f5, f6, f7, f8, f9, f10⟩ := R2.out.all
    obtain ⟨e0, e1, e2, e3, e4, e5, e6, e7, e8, e9, e10, e11⟩ := box_all N2.out
    go_upto_region 20 with fail
    go_wp2_with (go_at_call 92; refine (fails_stale b _ _ _ _ _ _ _ _ _ _ _ _ R2.out).mono ?_; rintro e wk ⟨rfl, rfl⟩)
    go_ret
    refine ⟨rfl, ?_⟩
    repeat (refine Fr.setCell ?_ (.inl (by simp)) _)
    exact F2.out
set_option maxRecDepth 100000 in
set_option maxHeartbeats 100000000 in
theorem spt_part_live (op : Int) (b : Nat) (B : List UInt8) (s0 : Nat) (pt : Int) (K : List UInt8) (err out : Bool) (pr : Int) (bg : Bool) (key value s : ByteArray) (k vn : Int) (u f : Nat) (x : Bool) (n m : Int) (w : World) (lax : Bool) (bad : Bool) (z : Bool) (hop : op = 1 ∨ op = 10) (p1 : ¬ pt = 1) (hs : s0 ≤ B.length)
    (h : SR w b #[.string ⟨B.toArray⟩, .int .i64 s0, .int .i64 pt, .bool bad, .string ⟨K.toArray⟩, .bool err, .bool out, .bool lax, .int .i64 pr, .bool bg, .bool false]) :
    Calls Tryz.prog 52 #[.pointer (some ⟨b, 0, none⟩), .agg #[.int .i64 op, .string key, .string value, .int .i64 k, .string s, .int .i64 vn, .int .u64 u, .float .f64 f, .bool x, .int .i64 n, .int .i64 m, .bool z]] w fun e w' => e = .returned (.bool true) ∧ SR w' b (failRow B s0 pt (.string ⟨K.toArray⟩) err out false (.bool lax) (.int .i64 pr) (.bool bg)) ∧ Fr [b] w w' := by
  obtain ⟨w1, HA, HN, hw1⟩ : ∃ q, Fr [] w q ∧ q.heap[w.heap.size]? = some (.cells #[.int .i64 op, .string key, .string value, .int .i64 k, .string s, .int .i64 vn, .int .u64 u, .float .f64 f, .bool x, .int .i64 n, .int .i64 m, .bool z] 38 (0, 0)) ∧ w.alloc (.cells #[.int .i64 op, .string key, .string value, .int .i64 k, .string s, .int .i64 vn, .int .u64 u, .float .f64 f, .bool x, .int .i64 n, .int .i64 m, .bool z] 38) = q := ⟨_, (Fr.refl [] w).alloc _, heap_alloc_new _ _, rfl⟩
  have hbl : b < w.heap.size := (Array.getElem?_eq_some_iff.1 h).1
  have hbg : ¬ b = w.heap.size := by omega
  have hgb : ¬ w.heap.size = b := by omega
  have R1 := Lib.hid (h.fr HA (by simp))
  have N1 := Lib.hid HN
  have F1 : Hid (Fr [b] w w1) := Lib.hid (HA.sub (by simp))
  have HW := Lib.hid hw1
  clear h hbl HA HN hw1
  rcases hop with rfl | rfl
  all_goals
    go_enter Tryz.func52, Tryz.ntmps52
    go_upto_region 16 with fail
    rw [HW.out]
    clear HW
    obtain ⟨⟨d0, d1, d2, d3, d4, d5, d6, d7, d8, d9, d10⟩, f0, f1, f2, f3, f4, f5, f6, f7, f8, f9, f10⟩ := R1.out.all
    obtain ⟨e0, e1, e2, e3, e4, e5, e6, e7, e8, e9, e10, e11⟩ := box_all N1.out
    go_upto_region 17 with fail
    go_wp2_with (go_at_call 92; refine (fails_any b B s0 hs pt bad (.string ⟨K.toArray⟩) err out false (.bool lax) (.int .i64 pr) (.bool bg) _ R1.out).mono ?_; rintro e wk ⟨rfl, hr, hf⟩; have HR := Lib.hid hr; have HF := Lib.hid hf; clear hr hf)
    go_ret
    refine ⟨rfl, HR.out, Fr.trans ?_ HF.out⟩
    repeat (refine Fr.setCell ?_ (.inl (by simp)) _)
    exact F1.out
set_option maxRecDepth 100000 in
set_option maxHeartbeats 100000000 in
theorem spt_k_live (op : Int) (b : Nat) (B : List UInt8) (s0 : Nat) (K : List UInt8) (err out : Bool) (pr : Int) (bg : Bool) (key value s : ByteArray) (k vn : Int) (u f : Nat) (x : Bool) (n m : Int) (w : World) (bad : Bool) (z : Bool) (hop : op = 1 ∨ op = 10) (hK : ∀ w, Calls Tryz.prog 29 #[.string key] w fun e w' => e = .returned (.bool false) ∧ w' = w) (hs : s0 ≤ B.length)
    (h : SR w b #[.string ⟨B.toArray⟩, .int .i64 s0, .int .i64 1, .bool bad, .string ⟨K.toArray⟩, .bool err, .bool out, .bool false, .int .i64 pr, .bool bg, .bool false]) :
    Calls Tryz.prog 52 #[.pointer (some ⟨b, 0, none⟩), .agg #[.int .i64 op, .string key, .string value, .int .i64 k, .string s, .int .i64 vn, .int .u64 u, .float .f64 f, .bool x, .int .i64 n, .int .i64 m, .bool z]] w fun e w' => e = .returned (.bool true) ∧ SR w' b (failRow B s0 1 (.string ⟨K.toArray⟩) err out false (.bool false) (.int .i64 pr) (.bool bg)) ∧ Fr [b] w w' := by
  have HK := Lib.hid hK
  clear hK
  obtain ⟨w1, HA, HN, hw1⟩ : ∃ q, Fr [] w q ∧ q.heap[w.heap.size]? = some (.cells #[.int .i64 op, .string key, .string value, .int .i64 k, .string s, .int .i64 vn, .int .u64 u, .float .f64 f, .bool x, .int .i64 n, .int .i64 m, .bool z] 38 (0, 0)) ∧ w.alloc (.cells #[.int .i64 op, .string key, .string value, .int .i64 k, .string s, .int .i64 vn, .int .u64 u, .float .f64 f, .bool x, .int .i64 n, .int .i64 m, .bool z] 38) = q := ⟨_, (Fr.refl [] w).alloc _, heap_alloc_new _ _, rfl⟩
  have hbl : b < w.heap.size := (Array.getElem?_eq_some_iff.1 h).1
  have hbg : ¬ b = w.heap.size := by omega
  have hgb : ¬ w.heap.size = b := by omega
  have R1 := Lib.hid (h.fr HA (by simp))
  have N1 := Lib.hid HN
  have F1 : Hid (Fr [b] w w1) := Lib.hid (HA.sub (by simp))
  have HW := Lib.hid hw1
  clear h hbl HA HN hw1
  rcases hop with rfl | rfl
  all_goals
    go_enter Tryz.func52, Tryz.ntmps52
    go_upto_region 16 with fail
    rw [HW.out]
    clear HW
    obtain ⟨⟨d0, d1, d2, d3, d4, d5, d6, d7, d8, d9, d10⟩, f0, f1, f2, f3, f4, f5, f6, f7, f8, f9, f10⟩ := R1.out.all
    obtain ⟨e0, e1, e2, e3, e4, e5, e6, e7, e8, e9, e10, e11⟩ := box_all N1.out
    go_upto_region 19 with fail
    go_quiet ((go_at_call 29; exact Calls.quiet_of_same (HK.out _)))
    obtain ⟨w2, hw⟩ : ∃ y, y = w1.drewN nq := ⟨_, rfl⟩
    have R2 : Hid (SR w2 b #[.string ⟨B.toArray⟩, .int .i64 s0, .int .i64 1, .bool bad, .string ⟨K.toArray⟩, .bool err, .bool out, .bool false, .int .i64 pr, .bool bg, .bool false]) := Lib.hid (by rw [hw]; exact R1.out)
    have FXq : Fr [] w1 w2 := by rw [hw]; exact fr_drewN (Fr.refl _ _) nq
    have N2 := Lib.hid (FXq.blk N1.out (by simp))
    clear FXq
    have F2 : Hid (Fr [b] w w2) := Lib.hid (by rw [hw]; exact fr_drewN F1.out nq)
    rw [← hw]
    clear hw
    clear d0 d1 d2 d3 d4 d5 d6 d7 d8 d9 d10 f0 f1 f2 f3 f4 f5 f6 f7 f8 f9 f10 e0 e1 e2 e3 e4 e5 e6 e7 e8 e9 e10 e11
    obtain ⟨⟨d0, d1, d2, d3, d4, d5, d6, d7, d8, d9, d10⟩, f0, f1, f2, f3, f4, f5, f6, f7, f8, f9, f10⟩ := R2.out.all
    obtain ⟨e0, e1, e2, e3, e4, e5, e6, e7, e8, e9, e10, e11⟩ := box_all N2.out
    go_upto_region 20 with fail
    go_wp2_with (go_at_call 92; refine (fails_any b B s0 hs 1 bad (.string ⟨K.toArray⟩) err out false (.bool false) (.int .i64 pr) (.bool bg) _ R2.out).mono ?_; rintro e wk ⟨rfl, hr, hf⟩; have HR := Lib.hid hr; have HF := Lib.hid hf; clear hr hf)
    go_ret
    refine ⟨rfl, HR.out, Fr.trans ?_ HF.out⟩
    repeat (refine Fr.setCell ?_ (.inl (by simp)) _)
    exact F2.out
set_option maxRecDepth 100000 in
set_option maxHeartbeats 100000000 in
theorem spt_v_live (op : Int) (b : Nat) (B : List UInt8) (s0 : Nat) (K : List UInt8) (err out : Bool) (pr : Int) (bg : Bool) (key value s : ByteArray) (k vn : Int) (u f : Nat) (x : Bool) (n m : Int) (w : World) (bad : Bool) (z : Bool) (hop : op = 1 ∨ op = 10) (hK : ∀ w, Calls Tryz.prog 29 #[.string key] w fun e w' => e = .returned (.bool true) ∧ w' = w) (hV : ∀ w, Calls Tryz.prog 29 #[.string value] w fun e w' => e = .returned (.bool false) ∧ w' = w) (hs : s0 ≤ B.length)
    (h : SR w b #[.string ⟨B.toArray⟩, .int .i64 s0, .int .i64 1, .bool bad, .string ⟨K.toArray⟩, .bool err, .bool out, .bool false, .int .i64 pr, .bool bg, .bool false]) :
    Calls Tryz.prog 52 #[.pointer (some ⟨b, 0, none⟩), .agg #[.int .i64 op, .string key, .string value, .int .i64 k, .string s, .int .i64 vn, .int .u64 u, .float .f64 f, .bool x, .int .i64 n, .int .i64 m, .bool z]] w fun e w' => e = .returned (.bool true) ∧ SR w' b (failRow B s0 1 (.string ⟨K.toArray⟩) err out false (.bool false) (.int .i64 pr) (.bool bg)) ∧ Fr [b] w w' := by
  have HK := Lib.hid hK
  clear hK
  have HV := Lib.hid hV
  clear hV
  obtain ⟨w1, HA, HN, hw1⟩ : ∃ q, Fr [] w q ∧ q.heap[w.heap.size]? = some (.cells #[.int .i64 op, .string key, .string value, .int .i64 k, .string s, .int .i64 vn, .int .u64 u, .float .f64 f, .bool x, .int .i64 n, .int .i64 m, .bool z] 38 (0, 0)) ∧ w.alloc (.cells #[.int .i64 op, .string key, .string value, .int .i64 k, .string s, .int .i64 vn, .int .u64 u, .float .f64 f, .bool x, .int .i64 n, .int .i64 m, .bool z] 38) = q := ⟨_, (Fr.refl [] w).alloc _, heap_alloc_new _ _, rfl⟩
  have hbl : b < w.heap.size := (Array.getElem?_eq_some_iff.1 h).1
  have hbg : ¬ b = w.heap.size := by omega
  have hgb : ¬ w.heap.size = b := by omega
  have R1 := Lib.hid (h.fr HA (by simp))
  have N1 := Lib.hid HN
  have F1 : Hid (Fr [b] w w1) := Lib.hid (HA.sub (by simp))
  have HW := Lib.hid hw1
  clear h hbl HA HN hw1
  rcases hop with rfl | rfl
  all_goals
    go_enter Tryz.func52, Tryz.ntmps52
    go_upto_region 16 with fail
    rw [HW.out]
    clear HW
    obtain ⟨⟨d0, d1, d2, d3, d4, d5, d6, d7, d8, d9, d10⟩, f0, f1, f2, f3, f4, f5, f6, f7, f8, f9, f10⟩ := R1.out.all
    obtain ⟨e0, e1, e2, e3, e4, e5, e6, e7, e8, e9, e10, e11⟩ := box_all N1.out
    go_upto_region 19 with fail
    go_quiet (first | (go_at_call_of 29 (Value.string key); exact Calls.quiet_of_same (HK.out _)) | (go_at_call_of 29 (Value.string value); exact Calls.quiet_of_same (HV.out _)))
    obtain ⟨w2, hw⟩ : ∃ y, y = w1.drewN nq := ⟨_, rfl⟩
    have R2 : Hid (SR w2 b #[.string ⟨B.toArray⟩, .int .i64 s0, .int .i64 1, .bool bad, .string ⟨K.toArray⟩, .bool err, .bool out, .bool false, .int .i64 pr, .bool bg, .bool false]) := Lib.hid (by rw [hw]; exact R1.out)
    have FXq : Fr [] w1 w2 := by rw [hw]; exact fr_drewN (Fr.refl _ _) nq
    have N2 := Lib.hid (FXq.blk N1.out (by simp))
    clear FXq
    have F2 : Hid (Fr [b] w w2) := Lib.hid (by rw [hw]; exact fr_drewN F1.out nq)
    rw [← hw]
    clear hw
    clear d0 d1 d2 d3 d4 d5 d6 d7 d8 d9 d10 f0 f1 f2 f3 f4 f5 f6 f7 f8 f9 f10 e0 e1 e2 e3 e4 e5 e6 e7 e8 e9 e10 e11
    obtain ⟨⟨d0, d1, d2, d3, d4, d5, d6, d7, d8, d9, d10⟩, f0, f1, f2, f3, f4, f5, f6, f7, f8, f9, f10⟩ := R2.out.all
    obtain ⟨e0, e1, e2, e3, e4, e5, e6, e7, e8, e9, e10, e11⟩ := box_all N2.out
    go_upto_region 20 with fail
    go_wp2_with (go_at_call 92; refine (fails_any b B s0 hs 1 bad (.string ⟨K.toArray⟩) err out false (.bool false) (.int .i64 pr) (.bool bg) _ R2.out).mono ?_; rintro e wk ⟨rfl, hr, hf⟩; have HR := Lib.hid hr; have HF := Lib.hid hf; clear hr hf)
    go_ret
    refine ⟨rfl, HR.out, Fr.trans ?_ HF.out⟩
    repeat (refine Fr.setCell ?_ (.inl (by simp)) _)
    exact F2.out
set_option maxRecDepth 100000 in
set_option maxHeartbeats 100000000 in
theorem spt_l_live (op : Int) (b : Nat) (B : List UInt8) (s0 : Nat) (K : List UInt8) (err out : Bool) (pr : Int) (bg : Bool) (key value s : ByteArray) (k vn : Int) (u f : Nat) (x : Bool) (n m : Int) (w : World) (bad : Bool) (z : Bool) (hop : op = 1 ∨ op = 10) (hK : ∀ w, Calls Tryz.prog 29 #[.string key] w fun e w' => e = .returned (.bool true) ∧ w' = w) (hV : ∀ w, Calls Tryz.prog 29 #[.string value] w fun e w' => e = .returned (.bool true) ∧ w' = w) (hl1 : Op.bytesLess key.toList K = true) (hs : s0 ≤ B.length)
    (h : SR w b #[.string ⟨B.toArray⟩, .int .i64 s0, .int .i64 1, .bool bad, .string ⟨K.toArray⟩, .bool err, .bool out, .bool false, .int .i64 pr, .bool bg, .bool false]) :
    Calls Tryz.prog 52 #[.pointer (some ⟨b, 0, none⟩), .agg #[.int .i64 op, .string key, .string value, .int .i64 k, .string s, .int .i64 vn, .int .u64 u, .float .f64 f, .bool x, .int .i64 n, .int .i64 m, .bool z]] w fun e w' => e = .returned (.bool true) ∧ SR w' b (failRow B s0 1 (.string ⟨K.toArray⟩) err out false (.bool false) (.int .i64 pr) (.bool bg)) ∧ Fr [b] w w' := by
  have HK := Lib.hid hK
  clear hK
  have HV := Lib.hid hV
  clear hV
  obtain ⟨w1, HA, HN, hw1⟩ : ∃ q, Fr [] w q ∧ q.heap[w.heap.size]? = some (.cells #[.int .i64 op, .string key, .string value, .int .i64 k, .string s, .int .i64 vn, .int .u64 u, .float .f64 f, .bool x, .int .i64 n, .int .i64 m, .bool z] 38 (0, 0)) ∧ w.alloc (.cells #[.int .i64 op, .string key, .string value, .int .i64 k, .string s, .int .i64 vn, .int .u64 u, .float .f64 f, .bool x, .int .i64 n, .int .i64 m, .bool z] 38) = q := ⟨_, (Fr.refl [] w).alloc _, heap_alloc_new _ _, rfl⟩
  have hbl : b < w.heap.size := (Array.getElem?_eq_some_iff.1 h).1
  have hbg : ¬ b = w.heap.size := by omega
  have hgb : ¬ w.heap.size = b := by omega
  have R1 := Lib.hid (h.fr HA (by simp))
  have N1 := Lib.hid HN
  have F1 : Hid (Fr [b] w w1) := Lib.hid (HA.sub (by simp))
  have HW := Lib.hid hw1
  clear h hbl HA HN hw1
  rcases hop with rfl | rfl
  all_goals
    go_enter Tryz.func52, Tryz.ntmps52
    go_upto_region 16 with fail
    rw [HW.out]
    clear HW
    obtain ⟨⟨d0, d1, d2, d3, d4, d5, d6, d7, d8, d9, d10⟩, f0, f1, f2, f3, f4, f5, f6, f7, f8, f9, f10⟩ := R1.out.all
    obtain ⟨e0, e1, e2, e3, e4, e5, e6, e7, e8, e9, e10, e11⟩ := box_all N1.out
    go_upto_region 19 with fail
    go_quiet (first | (go_at_call_of 29 (Value.string key); exact Calls.quiet_of_same (HK.out _)) | (go_at_call_of 29 (Value.string value); exact Calls.quiet_of_same (HV.out _)))
    obtain ⟨w2, hw⟩ : ∃ y, y = w1.drewN nq := ⟨_, rfl⟩
    have R2 : Hid (SR w2 b #[.string ⟨B.toArray⟩, .int .i64 s0, .int .i64 1, .bool bad, .string ⟨K.toArray⟩, .bool err, .bool out, .bool false, .int .i64 pr, .bool bg, .bool false]) := Lib.hid (by rw [hw]; exact R1.out)
    have FXq : Fr [] w1 w2 := by rw [hw]; exact fr_drewN (Fr.refl _ _) nq
    have N2 := Lib.hid (FXq.blk N1.out (by simp))
    clear FXq
    have F2 : Hid (Fr [b] w w2) := Lib.hid (by rw [hw]; exact fr_drewN F1.out nq)
    rw [← hw]
    clear hw
    clear d0 d1 d2 d3 d4 d5 d6 d7 d8 d9 d10 f0 f1 f2 f3 f4 f5 f6 f7 f8 f9 f10 e0 e1 e2 e3 e4 e5 e6 e7 e8 e9 e10 e11
    obtain ⟨⟨d0, d1, d2, d3, d4, d5, d6, d7, d8, d9, d10⟩, f0, f1, f2, f3, f4, f5, f6, f7, f8, f9, f10⟩ := R2.out.all
    obtain ⟨e0, e1, e2, e3, e4, e5, e6, e7, e8, e9, e10, e11⟩ := box_all N2.out
    go_upto_region 20 with fail
    go_wp2_with (go_at_call 92; refine (fails_any b B s0 hs 1 bad (.string ⟨K.toArray⟩) err out false (.bool false) (.int .i64 pr) (.bool bg) _ R2.out).mono ?_; rintro e wk ⟨rfl, hr, hf⟩; have HR := Lib.hid hr; have HF := Lib.hid hf; clear hr hf)
    go_ret
    refine ⟨rfl, HR.out, Fr.trans ?_ HF.out⟩
    repeat (refine Fr.setCell ?_ (.inl (by simp)) _)
    exact F2.out
set_option maxRecDepth 100000 in
set_option maxHeartbeats 100000000 in
theorem spt_m_live (op : Int) (b : Nat) (B : List UInt8) (s0 : Nat) (K : List UInt8) (err out : Bool) (pr : Int) (bg : Bool) (key value s : ByteArray) (k vn : Int) (u f : Nat) (x : Bool) (n m : Int) (w : World) (bad : Bool) (z : Bool) (hop : op = 1 ∨ op = 10) (hK : ∀ w, Calls Tryz.prog 29 #[.string key] w fun e w' => e = .returned (.bool true) ∧ w' = w) (hV : ∀ w, Calls Tryz.prog 29 #[.string value] w fun e w' => e = .returned (.bool true) ∧ w' = w) (hl1 : Op.bytesLess key.toList K = false) (hl2 : (key.toList == K) = true) (hs : s0 ≤ B.length)
    (h : SR w b #[.string ⟨B.toArray⟩, .int .i64 s0, .int .i64 1, .bool bad, .string ⟨K.toArray⟩, .bool err, .bool out, .bool false, .int .i64 pr, .bool bg, .bool false]) :
    Calls Tryz.prog 52 #[.pointer (some ⟨b, 0, none⟩), .agg #[.int .i64 op, .string key, .string value, .int .i64 k, .string s, .int .i64 vn, .int .u64 u, .float .f64 f, .bool x, .int .i64 n, .int .i64 m, .bool z]] w fun e w' => e = .returned (.bool true) ∧ SR w' b (failRow B s0 1 (.string ⟨K.toArray⟩) err out false (.bool false) (.int .i64 pr) (.bool bg)) ∧ Fr [b] w w' := by
  have HK := Lib.hid hK
  clear hK
  have HV := Lib.hid hV
  clear hV
  obtain ⟨w1, HA, HN, hw1⟩ : ∃ q, Fr [] w q ∧ q.heap[w.heap.size]? = some (.cells #[.int .i64 op, .string key, .string value, .int .i64 k, .string s, .int .i64 vn, .int .u64 u, .float .f64 f, .bool x, .int .i64 n, .int .i64 m, .bool z] 38 (0, 0)) ∧ w.alloc (.cells #[.int .i64 op, .string key, .string value, .int .i64 k, .string s, .int .i64 vn, .int .u64 u, .float .f64 f, .bool x, .int .i64 n, .int .i64 m, .bool z] 38) = q := ⟨_, (Fr.refl [] w).alloc _, heap_alloc_new _ _, rfl⟩
  have hbl : b < w.heap.size := (Array.getElem?_eq_some_iff.1 h).1
  have hbg : ¬ b = w.heap.size := by omega
  have hgb : ¬ w.heap.size = b := by omega
  have R1 := Lib.hid (h.fr HA (by simp))
  have N1 := Lib.hid HN
  have F1 : Hid (Fr [b] w w1) := Lib.hid (HA.sub (by simp))
  have HW := Lib.hid hw1
  clear h hbl HA HN hw1
  rcases hop with rfl | rfl
  all_goals
    go_enter Tryz.func52, Tryz.ntmps52
    go_upto_region 16 with fail
    rw [HW.out]
    clear HW
    obtain ⟨⟨d0, d1, d2, d3, d4, d5, d6, d7, d8, d9, d10⟩, f0, f1, f2, f3, f4, f5, f6, f7, f8, f9, f10⟩ := R1.out.all
    obtain ⟨e0, e1, e2, e3, e4, e5, e6, e7, e8, e9, e10, e11⟩ := box_all N1.out
    go_upto_region 19 with fail
    go_quiet (first | (go_at_call_of 29 (Value.string key); exact Calls.quiet_of_same (HK.out _)) | (go_at_call_of 29 (Value.string value); exact Calls.quiet_of_same (HV.out _)))
    obtain ⟨w2, hw⟩ : ∃ y, y = w1.drewN nq := ⟨_, rfl⟩
    have R2 : Hid (SR w2 b #[.string ⟨B.toArray⟩, .int .i64 s0, .int .i64 1, .bool bad, .string ⟨K.toArray⟩, .bool err, .bool out, .bool false, .int .i64 pr, .bool bg, .bool false]) := Lib.hid (by rw [hw]; exact R1.out)
    have FXq : Fr [] w1 w2 := by rw [hw]; exact fr_drewN (Fr.refl _ _) nq
    have N2 := Lib.hid (FXq.blk N1.out (by simp))
    clear FXq
    have F2 : Hid (Fr [b] w w2) := Lib.hid (by rw [hw]; exact fr_drewN F1.out nq)
    rw [← hw]
    clear hw
    clear d0 d1 d2 d3 d4 d5 d6 d7 d8 d9 d10 f0 f1 f2 f3 f4 f5 f6 f7 f8 f9 f10 e0 e1 e2 e3 e4 e5 e6 e7 e8 e9 e10 e11
    obtain ⟨⟨d0, d1, d2, d3, d4, d5, d6, d7, d8, d9, d10⟩, f0, f1, f2, f3, f4, f5, f6, f7, f8, f9, f10⟩ := R2.out.all
    obtain ⟨e0, e1, e2, e3, e4, e5, e6, e7, e8, e9, e10, e11⟩ := box_all N2.out
    go_upto_region 20 with fail
    go_wp2_with (go_at_call 92; refine (fails_any b B s0 hs 1 bad (.string ⟨K.toArray⟩) err out false (.bool false) (.int .i64 pr) (.bool bg) _ R2.out).mono ?_; rintro e wk ⟨rfl, hr, hf⟩; have HR := Lib.hid hr; have HF := Lib.hid hf; clear hr hf)
    go_ret
    refine ⟨rfl, HR.out, Fr.trans ?_ HF.out⟩
    repeat (refine Fr.setCell ?_ (.inl (by simp)) _)
    exact F2.out
set_option maxRecDepth 100000 in
set_option maxHeartbeats 100000000 in
theorem spt_s_true (op : Int) (b : Nat) (B : List UInt8) (s0 : Nat) (K : List UInt8) (err out : Bool) (pr : Int) (bg : Bool) (key value s : ByteArray) (k vn : Int) (u f : Nat) (x : Bool) (n m : Int) (w : World) (stl : Bool) (z : Bool) (hop : op = 1 ∨ op = 10) (hK : ∀ w, Calls Tryz.prog 29 #[.string key] w fun e w' => e = .returned (.bool true) ∧ w' = w) (hV : ∀ w, Calls Tryz.prog 29 #[.string value] w fun e w' => e = .returned (.bool true) ∧ w' = w) (hl1 : Op.bytesLess key.toList K = false) (hl2 : (key.toList == K) = false)
    (h : SR w b #[.string ⟨B.toArray⟩, .int .i64 s0, .int .i64 1, .bool true, .string ⟨K.toArray⟩, .bool err, .bool out, .bool false, .int .i64 pr, .bool bg, .bool stl]) :
    Calls Tryz.prog 52 #[.pointer (some ⟨b, 0, none⟩), .agg #[.int .i64 op, .string key, .string value, .int .i64 k, .string s, .int .i64 vn, .int .u64 u, .float .f64 f, .bool x, .int .i64 n, .int .i64 m, .bool z]] w fun e w' => e = .returned (.bool true) ∧ SR w' b #[.string ⟨B.toArray⟩, .int .i64 s0, .int .i64 1, .bool true, .string key, .bool err, .bool out, .bool false, .int .i64 pr, .bool bg, .bool stl] ∧ Fr [b] w w' := by
  have HK := Lib.hid hK
  clear hK
  have HV := Lib.hid hV
  clear hV
  obtain ⟨w1, HA, HN, hw1⟩ : ∃ q, Fr [] w q ∧ q.heap[w.heap.size]? = some (.cells #[.int .i64 op, .string key, .string value, .int .i64 k, .string s, .int .i64 vn, .int .u64 u, .float .f64 f, .bool x, .int .i64 n, .int .i64 m, .bool z] 38 (0, 0)) ∧ w.alloc (.cells #[.int .i64 op, .string key, .string value, .int .i64 k, .string s, .int .i64 vn, .int .u64 u, .float .f64 f, .bool x, .int .i64 n, .int .i64 m, .bool z] 38) = q := ⟨_, (Fr.refl [] w).alloc _, heap_alloc_new _ _, rfl⟩
  have hbl : b < w.heap.size := (Array.getElem?_eq_some_iff.1 h).1
  have hbg : ¬ b = w.heap.size := by omega
  have hgb : ¬ w.heap.size = b := by omega
  have R1 := Lib.hid (h.fr HA (by simp))
  have N1 := Lib.hid HN
  have F1 : Hid (Fr [b] w w1) := Lib.hid (HA.sub (by simp))
  have HW := Lib.hid hw1
  clear h hbl HA HN hw1
  rcases hop with rfl | rfl
  all_goals
    go_enter Tryz.func52, Tryz.ntmps52
    go_upto_region 16 with fail
    rw [HW.out]
    clear HW
    obtain ⟨⟨d0, d1, d2, d3, d4, d5, d6, d7, d8, d9, d10⟩, f0, f1, f2, f3, f4, f5, f6, f7, f8, f9, f10⟩ := R1.out.all
    obtain ⟨e0, e1, e2, e3, e4, e5, e6, e7, e8, e9, e10, e11⟩ := box_all N1.out
    go_upto_region 19 with fail
    go_quiet (first | (go_at_call_of 29 (Value.string key); exact Calls.quiet_of_same (HK.out _)) | (go_at_call_of 29 (Value.string value); exact Calls.quiet_of_same (HV.out _)))
    obtain ⟨w2, hw⟩ : ∃ y, y = w1.drewN nq := ⟨_, rfl⟩
    have R2 : Hid (SR w2 b #[.string ⟨B.toArray⟩, .int .i64 s0, .int .i64 1, .bool true, .string ⟨K.toArray⟩, .bool err, .bool out, .bool false, .int .i64 pr, .bool bg, .bool stl]) := Lib.hid (by rw [hw]; exact R1.out)
    have FXq : Fr [] w1 w2 := by rw [hw]; exact fr_drewN (Fr.refl _ _) nq
    have N2 := Lib.hid (FXq.blk N1.out (by simp))
    clear FXq
    have F2 : Hid (Fr [b] w w2) := Lib.hid (by rw [hw]; exact fr_drewN F1.out nq)
    rw [← hw]
    clear hw
    clear d0 d1 d2 d3 d4 d5 d6 d7 d8 d9 d10 f0 f1 f2 f3 f4 f5 f6 f7 f8 f9 f10 e0 e1 e2 e3 e4 e5 e6 e7 e8 e9 e10 e11
    obtain ⟨⟨d0, d1, d2, d3, d4, d5, d6, d7, d8, d9, d10⟩, f0, f1, f2, f3, f4, f5, f6, f7, f8, f9, f10⟩ := R2.out.all
    obtain ⟨e0, e1, e2, e3, e4, e5, e6, e7, e8, e9, e10, e11⟩ := box_all N2.out
    go_upto_region 22 with fail
    go_wp2
    go_ret
    refine ⟨rfl, (R2.out.set 4 _), ?_⟩
    repeat (refine Fr.setCell ?_ (.inl (by simp)) _)
    exact F2.out
set_option maxRecDepth 100000 in
set_option maxHeartbeats 100000000 in
theorem spt_l_true (op : Int) (b : Nat) (B : List UInt8) (s0 : Nat) (K : List UInt8) (err out : Bool) (pr : Int) (bg : Bool) (key value s : ByteArray) (k vn : Int) (u f : Nat) (x : Bool) (n m : Int) (w : World) (stl : Bool) (z : Bool) (hop : op = 1 ∨ op = 10)
    (h : SR w b #[.string ⟨B.toArray⟩, .int .i64 s0, .int .i64 1, .bool true, .string ⟨K.toArray⟩, .bool err, .bool out, .bool true, .int .i64 pr, .bool bg, .bool stl]) :
    Calls Tryz.prog 52 #[.pointer (some ⟨b, 0, none⟩), .agg #[.int .i64 op, .string key, .string value, .int .i64 k, .string s, .int .i64 vn, .int .u64 u, .float .f64 f, .bool x, .int .i64 n, .int .i64 m, .bool z]] w fun e w' => e = .returned (.bool true) ∧ SR w' b #[.string ⟨B.toArray⟩, .int .i64 s0, .int .i64 1, .bool true, .string ⟨K.toArray⟩, .bool err, .bool out, .bool true, .int .i64 pr, .bool bg, .bool stl] ∧ Fr [b] w w' := by
  obtain ⟨w1, HA, HN, hw1⟩ : ∃ q, Fr [] w q ∧ q.heap[w.heap.size]? = some (.cells #[.int .i64 op, .string key, .string value, .int .i64 k, .string s, .int .i64 vn, .int .u64 u, .float .f64 f, .bool x, .int .i64 n, .int .i64 m, .bool z] 38 (0, 0)) ∧ w.alloc (.cells #[.int .i64 op, .string key, .string value, .int .i64 k, .string s, .int .i64 vn, .int .u64 u, .float .f64 f, .bool x, .int .i64 n, .int .i64 m, .bool z] 38) = q := ⟨_, (Fr.refl [] w).alloc _, heap_alloc_new _ _, rfl⟩
  have hbl : b < w.heap.size := (Array.getElem?_eq_some_iff.1 h).1
  have hbg : ¬ b = w.heap.size := by omega
  have hgb : ¬ w.heap.size = b := by omega
  have R1 := Lib.hid (h.fr HA (by simp))
  have N1 := Lib.hid HN
  have F1 : Hid (Fr [b] w w1) := Lib.hid (HA.sub (by simp))
  have HW := Lib.hid hw1
  clear h hbl HA HN hw1
  rcases hop with rfl | rfl
  all_goals
    go_enter Tryz.func52, Tryz.ntmps52
    go_upto_region 16 with fail
    rw [HW.out]
    clear HW
    obtain ⟨⟨d0, d1, d2, d3, d4, d5, d6, d7, d8, d9, d10⟩, f0, f1, f2, f3, f4, f5, f6, f7, f8, f9, f10⟩ := R1.out.all
    obtain ⟨e0, e1, e2, e3, e4, e5, e6, e7, e8, e9, e10, e11⟩ := box_all N1.out
    go_upto_region 22 with fail
    go_wp2
    go_ret
    refine ⟨rfl, R1.out, ?_⟩
    repeat (refine Fr.setCell ?_ (.inl (by simp)) _)
    exact F1.out
end Go.Proofs.YtaaogjhaokaggaaGreatDoor
