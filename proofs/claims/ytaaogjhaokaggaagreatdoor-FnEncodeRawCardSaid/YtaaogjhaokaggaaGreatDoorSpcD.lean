import Derived.Test.YtaaogjhaokaggaaGreatDoorSpcF
import Derived.Deep.RegionLaw
import Derived.Deep.CutRange
import Derived.Deep.DeepCutAuto
import Derived.BigQuiet
import Derived.Laws.Concat
namespace Go.Proofs.YtaaogjhaokaggaaGreatDoor
open Go.RowKit

set_option maxRecDepth 100000 in
set_option maxHeartbeats 100000000 in
theorem spf_part_stale (op : Int) (b : Nat) (B : List UInt8) (s0 : Nat) (pt : Int) (K : List UInt8) (err out : Bool) (pr : Int) (bg : Bool) (key value s : ByteArray) (k vn : Int) (u f : Nat) (x : Bool) (n m : Int) (w : World) (lax : Bool) (bad : Bool) (z : Bool) (hop : op = 2 ∨ op = 11) (p1 : (pt != 1) = true) (p2 : (pt != 2) = true)
    (h : SR w b #[.string ⟨B.toArray⟩, .int .i64 s0, .int .i64 pt, .bool bad, .string ⟨K.toArray⟩, .bool err, .bool out, .bool lax, .int .i64 pr, .bool bg, .bool true]) :
    Calls Tryz.prog 52 #[.pointer (some ⟨b, 0, none⟩), .agg #[.int .i64 op, .string key, .string value, .int .i64 k, .string s, .int .i64 vn, .int .u64 u, .float .f64 f, .bool x, .int .i64 n, .int .i64 m, .bool z]] w fun e w' => e = .returned (.bool false) ∧ Fr [b] w w' := by
  obtain ⟨w1, HA, HN, hw1⟩ : ∃ q, Fr [] w q ∧ q.heap[w.heap.size]? = some (.cells #[.int .i64 op, .string key, .string value, .int .i64 k, .string s, .int .i64 vn, .int .u64 u, .float .f64 f, .bool x, .int .i64 n, .int .i64 m, .bool z] 38 (0, 0)) ∧ w.alloc (.cells #[.int .i64 op, .string key, .string value, .int .i64 k, .string s, .int .i64 vn, .int .u64 u, .float .f64 f, .bool x, .int .i64 n, .int .i64 m, .bool z] 38) = q := ⟨_, (Fr.refl [] w).alloc _, heap_alloc_new _ _, rfl⟩
  have hbl : b < w.heap.size := (Array.getElem?_eq_some_iff.1 h).1
  have hbg : ¬ b = w.heap.size := by omega
  have hgb : ¬ w.heap.size = b := by omega
  have R1 := Lib.hid (h.fr HA (by simp))
  have N1 := Lib.hid HN
  have F1 : Hid (Fr [b] w w1) := Lib.hid (HA.sub (by simp))
  have HW := Lib.hid hw1
  clear h hbl HA HN hw1
  rcases hop with rfl | rfl
  all_goals
    go_enter Tryz.func52, Tryz.ntmps52
    go_upto_region 26 with fail
    rw [HW.out]
    clear HW
    obtain ⟨⟨d0, d1, d2, d3, d4, d5, d6, d7, d8, d9, d10⟩, f0, f1, f2, f3, f4, f5, f6, f7, f8, f9, f10⟩ := R1.out.all
    obtain ⟨e0, e1, e2, e3, e4, e5, e6, e7, e8, e9, e10, e11⟩ := box_all N1.out
    go_upto_region 28 with fail
    go_wp2_with (go_at_call 92; refine (fails_stale b _ _ _ _ _ _ _ _ _ _ _ _ R1.out).mono ?_; rintro e wk ⟨rfl, rfl⟩)
    go_ret
    refine ⟨rfl, ?_⟩
    repeat (refine Fr.setCell ?_ (.inl (by simp)) _)
    exact F1.out
set_option maxRecDepth 100000 in
set_option maxHeartbeats 100000000 in
theorem spf_1_key_stale (op : Int) (b : Nat) (B : List UInt8) (s0 : Nat) (K : List UInt8) (err out : Bool) (pr : Int) (bg : Bool) (key value s : ByteArray) (k vn : Int) (u f : Nat) (x : Bool) (n m : Int) (w : World) (bad : Bool) (z : Bool) (hop : op = 2 ∨ op = 11) (hK : ∀ w, Calls Tryz.prog 29 #[.string key] w fun e w' => e = .returned (.bool false) ∧ w' = w)
    (h : SR w b #[.string ⟨B.toArray⟩, .int .i64 s0, .int .i64 1, .bool bad, .string ⟨K.toArray⟩, .bool err, .bool out, .bool false, .int .i64 pr, .bool bg, .bool true]) :
    Calls Tryz.prog 52 #[.pointer (some ⟨b, 0, none⟩), .agg #[.int .i64 op, .string key, .string value, .int .i64 k, .string s, .int .i64 vn, .int .u64 u, .float .f64 f, .bool x, .int .i64 n, .int .i64 m, .bool z]] w fun e w' => e = .returned (.bool false) ∧ Fr [b] w w' := by
  have HK := Lib.hid hK
  clear hK
  obtain ⟨w1, HA, HN, hw1⟩ : ∃ q, Fr [] w q ∧ q.heap[w.heap.size]? = some (.cells #[.int .i64 op, .string key, .string value, .int .i64 k, .string s, .int .i64 vn, .int .u64 u, .float .f64 f, .bool x, .int .i64 n, .int .i64 m, .bool z] 38 (0, 0)) ∧ w.alloc (.cells #[.int .i64 op, .string key, .string value, .int .i64 k, .string s, .int .i64 vn, .int .u64 u, .float .f64 f, .bool x, .int .i64 n, .int .i64 m, .bool z] 38) = q := ⟨_, (Fr.refl [] w).alloc _, heap_alloc_new _ _, rfl⟩
  have hbl : b < w.heap.size := (Array.getElem?_eq_some_iff.1 h).1
  have hbg : ¬ b = w.heap.size := by omega
  have hgb : ¬ w.heap.size = b := by omega
  have R1 := Lib.hid (h.fr HA (by simp))
  have N1 := Lib.hid HN
  have F1 : Hid (Fr [b] w w1) := Lib.hid (HA.sub (by simp))
  have HW := Lib.hid hw1
  clear h hbl HA HN hw1
  rcases hop with rfl | rfl
  all_goals
    go_enter Tryz.func52, Tryz.ntmps52
    go_upto_region 26 with fail
    rw [HW.out]
    clear HW
    obtain ⟨⟨d0, d1, d2, d3, d4, d5, d6, d7, d8, d9, d10⟩, f0, f1, f2, f3, f4, f5, f6, f7, f8, f9, f10⟩ := R1.out.all
    obtain ⟨e0, e1, e2, e3, e4, e5, e6, e7, e8, e9, e10, e11⟩ := box_all N1.out
    go_upto_region 29 with fail
    go_upto_region 30 with fail
    go_upto_region 31 with (go_at_call 29; refine (HK.out _).mono ?_; rintro e wz ⟨rfl, rfl⟩)
    go_wp2_with (go_at_call 92; refine (fails_stale b _ _ _ _ _ _ _ _ _ _ _ _ (R1.out.set 2 _)).mono ?_; rintro e wk ⟨rfl, rfl⟩)
    go_ret
    refine ⟨rfl, ?_⟩
    repeat (refine Fr.setCell ?_ (.inl (by simp)) _)
    exact F1.out
set_option maxRecDepth 100000 in
set_option maxHeartbeats 100000000 in
theorem spf_2_key_stale (op : Int) (b : Nat) (B : List UInt8) (s0 : Nat) (K : List UInt8) (err out : Bool) (pr : Int) (bg : Bool) (key value s : ByteArray) (k vn : Int) (u f : Nat) (x : Bool) (n m : Int) (w : World) (bad : Bool) (z : Bool) (hop : op = 2 ∨ op = 11) (hK : ∀ w, Calls Tryz.prog 29 #[.string key] w fun e w' => e = .returned (.bool false) ∧ w' = w)
    (h : SR w b #[.string ⟨B.toArray⟩, .int .i64 s0, .int .i64 2, .bool bad, .string ⟨K.toArray⟩, .bool err, .bool out, .bool false, .int .i64 pr, .bool bg, .bool true]) :
    Calls Tryz.prog 52 #[.pointer (some ⟨b, 0, none⟩), .agg #[.int .i64 op, .string key, .string value, .int .i64 k, .string s, .int .i64 vn, .int .u64 u, .float .f64 f, .bool x, .int .i64 n, .int .i64 m, .bool z]] w fun e w' => e = .returned (.bool false) ∧ Fr [b] w w' := by
  have HK := Lib.hid hK
  clear hK
  obtain ⟨w1, HA, HN, hw1⟩ : ∃ q, Fr [] w q ∧ q.heap[w.heap.size]? = some (.cells #[.int .i64 op, .string key, .string value, .int .i64 k, .string s, .int .i64 vn, .int .u64 u, .float .f64 f, .bool x, .int .i64 n, .int .i64 m, .bool z] 38 (0, 0)) ∧ w.alloc (.cells #[.int .i64 op, .string key, .string value, .int .i64 k, .string s, .int .i64 vn, .int .u64 u, .float .f64 f, .bool x, .int .i64 n, .int .i64 m, .bool z] 38) = q := ⟨_, (Fr.refl [] w).alloc _, heap_alloc_new _ _, rfl⟩
  have hbl : b < w.heap.size := (Array.getElem?_eq_some_iff.1 h).1
  have hbg : ¬ b = w.heap.size := by omega
  have hgb : ¬ w.heap.size = b := by omega
  have R1 := Lib.hid (h.fr HA (by simp))
  have N1 := Lib.hid HN
  have F1 : Hid (Fr [b] w w1) := Lib.hid (HA.sub (by simp))
  have HW := Lib.hid hw1
  clear h hbl HA HN hw1
  rcases hop with rfl | rfl
  all_goals
    go_enter Tryz.func52, Tryz.ntmps52
    go_upto_region 26 with fail
    rw [HW.out]
    clear HW
    obtain ⟨⟨d0, d1, d2, d3, d4, d5, d6, d7, d8, d9, d10⟩, f0, f1, f2, f3, f4, f5, f6, f7, f8, f9, f10⟩ := R1.out.all
    obtain ⟨e0, e1, e2, e3, e4, e5, e6, e7, e8, e9, e10, e11⟩ := box_all N1.out
    go_upto_region 29 with fail
    go_upto_region 30 with fail
    go_upto_region 31 with (go_at_call 29; refine (HK.out _).mono ?_; rintro e wz ⟨rfl, rfl⟩)
    go_wp2_with (go_at_call 92; refine (fails_stale b _ _ _ _ _ _ _ _ _ _ _ _ (R1.out.set 2 _)).mono ?_; rintro e wk ⟨rfl, rfl⟩)
    go_ret
    refine ⟨rfl, ?_⟩
    repeat (refine Fr.setCell ?_ (.inl (by simp)) _)
    exact F1.out
set_option maxRecDepth 100000 in
set_option maxHeartbeats 100000000 in
theorem spf_part_live (op : Int) (b : Nat) (B : List UInt8) (s0 : Nat) (pt : Int) (K : List UInt8) (err out : Bool) (pr : Int) (bg : Bool) (key value s : ByteArray) (k vn : Int) (u f : Nat) (x : Bool) (n m : Int) (w : World) (lax : Bool) (bad : Bool) (z : Bool) (hop : op = 2 ∨ op = 11) (p1 : (pt != 1) = true) (p2 : (pt != 2) = true) (hs : s0 ≤ B.length)
    (h : SR w b #[.string ⟨B.toArray⟩, .int .i64 s0, .int .i64 pt, .bool bad, .string ⟨K.toArray⟩, .bool err, .bool out, .bool lax, .int .i64 pr, .bool bg, .bool false]) :
    Calls Tryz.prog 52 #[.pointer (some ⟨b, 0, none⟩), .agg #[.int .i64 op, .string key, .string value, .int .i64 k, .string s, .int .i64 vn, .int .u64 u, .float .f64 f, .bool x, .int .i64 n, .int .i64 m, .bool z]] w fun e w' => e = .returned (.bool true) ∧ SR w' b (failRow B s0 pt (.string ⟨K.toArray⟩) err out false (.bool lax) (.int .i64 pr) (.bool bg)) ∧ Fr [b] w w' := by
  obtain ⟨w1, HA, HN, hw1⟩ : ∃ q, Fr [] w q ∧ q.heap[w.heap.size]? = some (.cells #[.int .i64 op, .string key, .string value, .int .i64 k, .string s, .int .i64 vn, .int .u64 u, .float .f64 f, .bool x, .int .i64 n, .int .i64 m, .bool z] 38 (0, 0)) ∧ w.alloc (.cells #[.int .i64 op, .string key, .string value, .int .i64 k, .string s, .int .i64 vn, .int .u64 u, .float .f64 f, .bool x, .int .i64 n, .int .i64 m, .bool z] 38) = q := ⟨_, (Fr.refl [] w).alloc _, heap_alloc_new _ _, rfl⟩
  have hbl : b < w.heap.size := (Array.getElem?_eq_some_iff.1 h).1
  have hbg : ¬ b = w.heap.size := by omega
  have hgb : ¬ w.heap.size = b := by omega
  have R1 := Lib.hid (h.fr HA (by simp))
  have N1 := Lib.hid HN
  have F1 : Hid (Fr [b] w w1) := Lib.hid (HA.sub (by simp))
  have HW := Lib.hid hw1
  clear h hbl HA HN hw1
  rcases hop with rfl | rfl
  all_goals
    go_enter Tryz.func52, Tryz.ntmps52
    go_upto_region 26 with fail
    rw [HW.out]
    clear HW
    obtain ⟨⟨d0, d1, d2, d3, d4, d5, d6, d7, d8, d9, d10⟩, f0, f1, f2, f3, f4, f5, f6, f7, f8, f9, f10⟩ := R1.out.all
    obtain ⟨e0, e1, e2, e3, e4, e5, e6, e7, e8, e9, e10, e11⟩ := box_all N1.out
    go_upto_region 28 with fail
    go_wp2_with (go_at_call 92; refine (fails_any b B s0 hs pt bad (.string ⟨K.toArray⟩) err out false (.bool lax) (.int .i64 pr) (.bool bg) _ R1.out).mono ?_; rintro e wk ⟨rfl, hr, hf⟩; have HR := Lib.hid hr; have HF := Lib.hid hf; clear hr hf)
    go_ret
    refine ⟨rfl, HR.out, Fr.trans ?_ HF.out⟩
    repeat (refine Fr.setCell ?_ (.inl (by simp)) _)
    exact F1.out
set_option maxRecDepth 100000 in
set_option maxHeartbeats 100000000 in
theorem spf_1_key_live (op : Int) (b : Nat) (B : List UInt8) (s0 : Nat) (K : List UInt8) (err out : Bool) (pr : Int) (bg : Bool) (key value s : ByteArray) (k vn : Int) (u f : Nat) (x : Bool) (n m : Int) (w : World) (bad : Bool) (z : Bool) (hop : op = 2 ∨ op = 11) (hK : ∀ w, Calls Tryz.prog 29 #[.string key] w fun e w' => e = .returned (.bool false) ∧ w' = w) (hs : s0 ≤ B.length)
    (h : SR w b #[.string ⟨B.toArray⟩, .int .i64 s0, .int .i64 1, .bool bad, .string ⟨K.toArray⟩, .bool err, .bool out, .bool false, .int .i64 pr, .bool bg, .bool false]) :
    Calls Tryz.prog 52 #[.pointer (some ⟨b, 0, none⟩), .agg #[.int .i64 op, .string key, .string value, .int .i64 k, .string s, .int .i64 vn, .int .u64 u, .float .f64 f, .bool x, .int .i64 n, .int .i64 m, .bool z]] w fun e w' => e = .returned (.bool true) ∧ SR w' b (failRow B s0 2 (.string ⟨K.toArray⟩) err out false (.bool false) (.int .i64 pr) (.bool bg)) ∧ Fr [b] w w' := by
  have HK := Lib.hid hK
  clear hK
  obtain ⟨w1, HA, HN, hw1⟩ : ∃ q, Fr [] w q ∧ q.heap[w.heap.size]? = some (.cells #[.int .i64 op, .string key, .string value, .int .i64 k, .string s, .int .i64 vn, .int .u64 u, .float .f64 f, .bool x, .int .i64 n, .int .i64 m, .bool z] 38 (0, 0)) ∧ w.alloc (.cells #[.int .i64 op, .string key, .string value, .int .i64 k, .string s, .int .i64 vn, .int .u64 u, .float .f64 f, .bool x, .int .i64 n, .int .i64 m, .bool z] 38) = q := ⟨_, (Fr.refl [] w).alloc _, heap_alloc_new _ _, rfl⟩
  have hbl : b < w.heap.size := (Array.getElem?_eq_some_iff.1 h).1
  have hbg : ¬ b = w.heap.size := by omega
  have hgb : ¬ w.heap.size = b := by omega
  have R1 := Lib.hid (h.fr HA (by simp))
  have N1 := Lib.hid HN
  have F1 : Hid (Fr [b] w w1) := Lib.hid (HA.sub (by simp))
  have HW := Lib.hid hw1
  clear h hbl HA HN hw1
  rcases hop with rfl | rfl
  all_goals
    go_enter Tryz.func52, Tryz.ntmps52
    go_upto_region 26 with fail
    rw [HW.out]
    clear HW
    obtain ⟨⟨d0, d1, d2, d3, d4, d5, d6, d7, d8, d9, d10⟩, f0, f1, f2, f3, f4, f5, f6, f7, f8, f9, f10⟩ := R1.out.all
    obtain ⟨e0, e1, e2, e3, e4, e5, e6, e7, e8, e9, e10, e11⟩ := box_all N1.out
    go_upto_region 29 with fail
    go_upto_region 30 with fail
    go_upto_region 31 with (go_at_call 29; refine (HK.out _).mono ?_; rintro e wz ⟨rfl, rfl⟩)
    go_wp2_with (go_at_call 92; refine (fails_any b B s0 hs 2 bad (.string ⟨K.toArray⟩) err out false (.bool false) (.int .i64 pr) (.bool bg) _ (R1.out.set 2 _)).mono ?_; rintro e wk ⟨rfl, hr, hf⟩; have HR := Lib.hid hr; have HF := Lib.hid hf; clear hr hf)
    go_ret
    refine ⟨rfl, HR.out, Fr.trans ?_ HF.out⟩
    repeat (refine Fr.setCell ?_ (.inl (by simp)) _)
    exact F1.out
set_option maxRecDepth 100000 in
set_option maxHeartbeats 100000000 in
theorem spf_2_key_live (op : Int) (b : Nat) (B : List UInt8) (s0 : Nat) (K : List UInt8) (err out : Bool) (pr : Int) (bg : Bool) (key value s : ByteArray) (k vn : Int) (u f : Nat) (x : Bool) (n m : Int) (w : World) (bad : Bool) (z : Bool) (hop : op = 2 ∨ op = 11) (hK : ∀ w, Calls Tryz.prog 29 #[.string key] w fun e w' => e = .returned (.bool false) ∧ w' = w) (hs : s0 ≤ B.length)
    (h : SR w b #[.string ⟨B.toArray⟩, .int .i64 s0, .int .i64 2, .bool bad, .string ⟨K.toArray⟩, .bool err, .bool out, .bool false, .int .i64 pr, .bool bg, .bool false]) :
    Calls Tryz.prog 52 #[.pointer (some ⟨b, 0, none⟩), .agg #[.int .i64 op, .string key, .string value, .int .i64 k, .string s, .int .i64 vn, .int .u64 u, .float .f64 f, .bool x, .int .i64 n, .int .i64 m, .bool z]] w fun e w' => e = .returned (.bool true) ∧ SR w' b (failRow B s0 2 (.string ⟨K.toArray⟩) err out false (.bool false) (.int .i64 pr) (.bool bg)) ∧ Fr [b] w w' := by
  have HK := Lib.hid hK
  clear hK
  obtain ⟨w1, HA, HN, hw1⟩ : ∃ q, Fr [] w q ∧ q.heap[w.heap.size]? = some (.cells #[.int .i64 op, .string key, .string value, .int .i64 k, .string s, .int .i64 vn, .int .u64 u, .float .f64 f, .bool x, .int .i64 n, .int .i64 m, .bool z] 38 (0, 0)) ∧ w.alloc (.cells #[.int .i64 op, .string key, .string value, .int .i64 k, .string s, .int .i64 vn, .int .u64 u, .float .f64 f, .bool x, .int .i64 n, .int .i64 m, .bool z] 38) = q := ⟨_, (Fr.refl [] w).alloc _, heap_alloc_new _ _, rfl⟩
  have hbl : b < w.heap.size := (Array.getElem?_eq_some_iff.1 h).1
  have hbg : ¬ b = w.heap.size := by omega
  have hgb : ¬ w.heap.size = b := by omega
  have R1 := Lib.hid (h.fr HA (by simp))
  have N1 := Lib.hid HN
  have F1 : Hid (Fr [b] w w1) := Lib.hid (HA.sub (by simp))
  have HW := Lib.hid hw1
  clear h hbl HA HN hw1
  rcases hop with rfl | rfl
  all_goals
    go_enter Tryz.func52, Tryz.ntmps52
    go_upto_region 26 with fail
    rw [HW.out]
    clear HW
    obtain ⟨⟨d0, d1, d2, d3, d4, d5, d6, d7, d8, d9, d10⟩, f0, f1, f2, f3, f4, f5, f6, f7, f8, f9, f10⟩ := R1.out.all
    obtain ⟨e0, e1, e2, e3, e4, e5, e6, e7, e8, e9, e10, e11⟩ := box_all N1.out
    go_upto_region 29 with fail
    go_upto_region 30 with fail
    go_upto_region 31 with (go_at_call 29; refine (HK.out _).mono ?_; rintro e wz ⟨rfl, rfl⟩)
    go_wp2_with (go_at_call 92; refine (fails_any b B s0 hs 2 bad (.string ⟨K.toArray⟩) err out false (.bool false) (.int .i64 pr) (.bool bg) _ (R1.out.set 2 _)).mono ?_; rintro e wk ⟨rfl, hr, hf⟩; have HR := Lib.hid hr; have HF := Lib.hid hf; clear hr hf)
    go_ret
    refine ⟨rfl, HR.out, Fr.trans ?_ HF.out⟩
    repeat (refine Fr.setCell ?_ (.inl (by simp)) _)
    exact F1.out
set_option maxRecDepth 100000 in
set_option maxHeartbeats 100000000 in
theorem spf_1_s_true (op : Int) (b : Nat) (B : List UInt8) (s0 : Nat) (K : List UInt8) (err out : Bool) (pr : Int) (bg : Bool) (key value s : ByteArray) (k vn : Int) (u f : Nat) (x : Bool) (n m : Int) (w : World) (stl : Bool) (z : Bool) (hop : op = 2 ∨ op = 11) (hK : ∀ w, Calls Tryz.prog 29 #[.string key] w fun e w' => e = .returned (.bool true) ∧ w' = w)
    (h : SR w b #[.string ⟨B.toArray⟩, .int .i64 s0, .int .i64 1, .bool true, .string ⟨K.toArray⟩, .bool err, .bool out, .bool false, .int .i64 pr, .bool bg, .bool stl]) :
    Calls Tryz.prog 52 #[.pointer (some ⟨b, 0, none⟩), .agg #[.int .i64 op, .string key, .string value, .int .i64 k, .string s, .int .i64 vn, .int .u64 u, .float .f64 f, .bool x, .int .i64 n, .int .i64 m, .bool z]] w fun e w' => e = .returned (.bool true) ∧ SR w' b #[.string ⟨B.toArray⟩, .int .i64 s0, .int .i64 2, .bool true, .string ⟨K.toArray⟩, .bool err, .bool out, .bool false, .int .i64 pr, .bool bg, .bool stl] ∧ Fr [b] w w' := by
  have HK := Lib.hid hK
  clear hK
  obtain ⟨w1, HA, HN, hw1⟩ : ∃ q, Fr [] w q ∧ q.heap[w.heap.size]? = some (.cells #[.int .i64 op, .string key, .string value, .int .i64 k, .string s, .int .i64 vn, .int .u64 u, .float .f64 f, .bool x, .int .i64 n, .int .i64 m, .bool z] 38 (0, 0)) ∧ w.alloc (.cells #[.int .i64 op, .string key, .string value, .int .i64 k, .string s, .int .i64 vn, .int .u64 u, .float .f64 f, .bool x, .int .i64 n, .int .i64 m, .bool z] 38) = q := ⟨_, (Fr.refl [] w).alloc _, heap_alloc_new _ _, rfl⟩
  have hbl : b < w.heap.size := (Array.getElem?_eq_some_iff.1 h).1
  have hbg : ¬ b = w.heap.size := by omega
  have hgb : ¬ w.heap.size = b := by omega
  have R1 := Lib.hid (h.fr HA (by simp))
  have N1 := Lib.hid HN
  have F1 : Hid (Fr [b] w w1) := Lib.hid (HA.sub (by simp))
  have HW := Lib.hid hw1
  clear h hbl HA HN hw1
  rcases hop with rfl | rfl
  all_goals
    go_enter Tryz.func52, Tryz.ntmps52
    go_upto_region 26 with fail
    rw [HW.out]
    clear HW
    obtain ⟨⟨d0, d1, d2, d3, d4, d5, d6, d7, d8, d9, d10⟩, f0, f1, f2, f3, f4, f5, f6, f7, f8, f9, f10⟩ := R1.out.all
    obtain ⟨e0, e1, e2, e3, e4, e5, e6, e7, e8, e9, e10, e11⟩ := box_all N1.out
    go_upto_region 29 with fail
    go_upto_region 30 with fail
    go_upto_region 32 with (go_at_call 29; refine (HK.out _).mono ?_; rintro e wz ⟨rfl, rfl⟩)
    go_wp2
    go_ret
    refine ⟨rfl, (R1.out.set 2 _), ?_⟩
    repeat (refine Fr.setCell ?_ (.inl (by simp)) _)
    exact F1.out
set_option maxRecDepth 100000 in
set_option maxHeartbeats 100000000 in
theorem spf_1_l_true (op : Int) (b : Nat) (B : List UInt8) (s0 : Nat) (K : List UInt8) (err out : Bool) (pr : Int) (bg : Bool) (key value s : ByteArray) (k vn : Int) (u f : Nat) (x : Bool) (n m : Int) (w : World) (stl : Bool) (z : Bool) (hop : op = 2 ∨ op = 11)
    (h : SR w b #[.string ⟨B.toArray⟩, .int .i64 s0, .int .i64 1, .bool true, .string ⟨K.toArray⟩, .bool err, .bool out, .bool true, .int .i64 pr, .bool bg, .bool stl]) :
    Calls Tryz.prog 52 #[.pointer (some ⟨b, 0, none⟩), .agg #[.int .i64 op, .string key, .string value, .int .i64 k, .string s, .int .i64 vn, .int .u64 u, .float .f64 f, .bool x, .int .i64 n, .int .i64 m, .bool z]] w fun e w' => e = .returned (.bool true) ∧ SR w' b #[.string ⟨B.toArray⟩, .int .i64 s0, .int .i64 2, .bool true, .string ⟨K.toArray⟩, .bool err, .bool out, .bool true, .int .i64 pr, .bool bg, .bool stl] ∧ Fr [b] w w' := by
  obtain ⟨w1, HA, HN, hw1⟩ : ∃ q, Fr [] w q ∧ q.heap[w.heap.size]? = some (.cells #[.int .i64 op, .string key, .string value, .int .i64 k, .string s, .int .i64 vn, .int .u64 u, .float .f64 f, .bool x, .int .i64 n, .int .i64 m, .bool z] 38 (0, 0)) ∧ w.alloc (.cells #[.int .i64 op, .string key, .string value, .int .i64 k, .string s, .int .i64 vn, .int .u64 u, .float .f64 f, .bool x, .int .i64 n, .int .i64 m, .bool z] 38) = q := ⟨_, (Fr.refl [] w).alloc _, heap_alloc_new _ _, rfl⟩
  have hbl : b < w.heap.size := (Array.getElem?_eq_some_iff.1 h).1
  have hbg : ¬ b = w.heap.size := by omega
  have hgb : ¬ w.heap.size = b := by omega
  have R1 := Lib.hid (h.fr HA (by simp))
  have N1 := Lib.hid HN
  have F1 : Hid (Fr [b] w w1) := Lib.hid (HA.sub (by simp))
  have HW := Lib.hid hw1
  clear h hbl HA HN hw1
  rcases hop with rfl | rfl
  all_goals
    go_enter Tryz.func52, Tryz.ntmps52
    go_upto_region 26 with fail
    rw [HW.out]
    clear HW
    obtain ⟨⟨d0, d1, d2, d3, d4, d5, d6, d7, d8, d9, d10⟩, f0, f1, f2, f3, f4, f5, f6, f7, f8, f9, f10⟩ := R1.out.all
    obtain ⟨e0, e1, e2, e3, e4, e5, e6, e7, e8, e9, e10, e11⟩ := box_all N1.out
    go_upto_region 29 with fail
    go_upto_region 30 with fail
    go_upto_region 32 with fail
    go_wp2
    go_ret
    refine ⟨rfl, (R1.out.set 2 _), ?_⟩
    repeat (refine Fr.setCell ?_ (.inl (by simp)) _)
    exact F1.out
set_option maxRecDepth 100000 in
set_option maxHeartbeats 100000000 in
theorem spf_2_s_true (op : Int) (b : Nat) (B : List UInt8) (s0 : Nat) (K : List UInt8) (err out : Bool) (pr : Int) (bg : Bool) (key value s : ByteArray) (k vn : Int) (u f : Nat) (x : Bool) (n m : Int) (w : World) (stl : Bool) (z : Bool) (hop : op = 2 ∨ op = 11) (hK : ∀ w, Calls Tryz.prog 29 #[.string key] w fun e w' => e = .returned (.bool true) ∧ w' = w)
    (h : SR w b #[.string ⟨B.toArray⟩, .int .i64 s0, .int .i64 2, .bool true, .string ⟨K.toArray⟩, .bool err, .bool out, .bool false, .int .i64 pr, .bool bg, .bool stl]) :
    Calls Tryz.prog 52 #[.pointer (some ⟨b, 0, none⟩), .agg #[.int .i64 op, .string key, .string value, .int .i64 k, .string s, .int .i64 vn, .int .u64 u, .float .f64 f, .bool x, .int .i64 n, .int .i64 m, .bool z]] w fun e w' => e = .returned (.bool true) ∧ SR w' b #[.string ⟨B.toArray⟩, .int .i64 s0, .int .i64 2, .bool true, .string ⟨K.toArray⟩, .bool err, .bool out, .bool false, .int .i64 pr, .bool bg, .bool stl] ∧ Fr [b] w w' := by
  have HK := Lib.hid hK
  clear hK
  obtain ⟨w1, HA, HN, hw1⟩ : ∃ q, Fr [] w q ∧ q.heap[w.heap.size]? = some (.cells #[.int .i64 op, .string key, .string value, .int .i64 k, .string s, .int .i64 vn, .int .u64 u, .float .f64 f, .bool x, .int .i64 n, .int .i64 m, .bool z] 38 (0, 0)) ∧ w.alloc (.cells #[.int .i64 op, .string key, .string value, .int .i64 k, .string s, .int .i64 vn, .int .u64 u, .float .f64 f, .bool x, .int .i64 n, .int .i64 m, .bool z] 38) = q := ⟨_, (Fr.refl [] w).alloc _, heap_alloc_new _ _, rfl⟩
  have hbl : b < w.heap.size := (Array.getElem?_eq_some_iff.1 h).1
  have hbg : ¬ b = w.heap.size := by omega
  have hgb : ¬ w.heap.size = b := by omega
  have R1 := Lib.hid (h.fr HA (by simp))
  have N1 := Lib.hid HN
  have F1 : Hid (Fr [b] w w1) := Lib.hid (HA.sub (by simp))
  have HW := Lib.hid hw1
  clear h hbl HA HN hw1
  rcases hop with rfl | rfl
  all_goals
    go_enter Tryz.func52, Tryz.ntmps52
    go_upto_region 26 with fail
    rw [HW.out]
    clear HW
    obtain ⟨⟨d0, d1, d2, d3, d4, d5, d6, d7, d8, d9, d10⟩, f0, f1, f2, f3, f4, f5, f6, f7, f8, f9, f10⟩ := R1.out.all
    obtain ⟨e0, e1, e2, e3, e4, e5, e6, e7, e8, e9, e10, e11⟩ := box_all N1.out
    go_upto_region 29 with fail
    go_upto_region 30 with fail
    go_upto_region 32 with (go_at_call 29; refine (HK.out _).mono ?_; rintro e wz ⟨rfl, rfl⟩)
    go_wp2
    go_ret
    refine ⟨rfl, (R1.out.set 2 _), ?_⟩
    repeat (refine Fr.setCell ?_ (.inl (by simp)) _)
    exact F1.out
set_option maxRecDepth 100000 in
set_option maxHeartbeats 100000000 in
theorem spf_2_l_true (op : Int) (b : Nat) (B : List UInt8) (s0 : Nat) (K : List UInt8) (err out : Bool) (pr : Int) (bg : Bool) (key value s : ByteArray) (k vn : Int) (u f : Nat) (x : Bool) (n m : Int) (w : World) (stl : Bool) (z : Bool) (hop : op = 2 ∨ op = 11)
    (h : SR w b #[.string ⟨B.toArray⟩, .int .i64 s0, .int .i64 2, .bool true, .string ⟨K.toArray⟩, .bool err, .bool out, .bool true, .int .i64 pr, .bool bg, .bool stl]) :
    Calls Tryz.prog 52 #[.pointer (some ⟨b, 0, none⟩), .agg #[.int .i64 op, .string key, .string value, .int .i64 k, .string s, .int .i64 vn, .int .u64 u, .float .f64 f, .bool x, .int .i64 n, .int .i64 m, .bool z]] w fun e w' => e = .returned (.bool true) ∧ SR w' b #[.string ⟨B.toArray⟩, .int .i64 s0, .int .i64 2, .bool true, .string ⟨K.toArray⟩, .bool err, .bool out, .bool true, .int .i64 pr, .bool bg, .bool stl] ∧ Fr [b] w w' := by
  obtain ⟨w1, HA, HN, hw1⟩ : ∃ q, Fr [] w q ∧ q.heap[w.heap.size]? = some (.cells #[.int .i64 op, .string key, .string value, .int .i64 k, .string s, .int .i64 vn, .int .u64 u, .float .f64 f, .bool x, .int .i64 n, .int .i64 m, .bool z] 38 (0, 0)) ∧ w.alloc (.cells #[.int .i64 op, .string key, .string value, .int .i64 k, .string s, .int .i64 vn, .int .u64 u, .float .f64 f, .bool x, .int .i64 n, .int .i64 m, .bool z] 38) = q := ⟨_, (Fr.refl [] w).alloc _, heap_alloc_new _ _, rfl⟩
  have hbl : b < w.heap.size := (Array.getElem?_eq_some_iff.1 h).1
  have hbg : ¬ b = w.heap.size := by omega
  have hgb : ¬ w.heap.size = b := by omega
  have R1 := Lib.hid (h.fr HA (by simp))
  have N1 := Lib.hid HN
  have F1 : Hid (Fr [b] w w1) := Lib.hid (HA.sub (by simp))
  have HW := Lib.hid hw1
  clear h hbl HA HN hw1
  rcases hop with rfl | rfl
  all_goals
    go_enter Tryz.func52, Tryz.ntmps52
    go_upto_region 26 with fail
    rw [HW.out]
    clear HW
    obtain ⟨⟨d0, d1, d2, d3, d4, d5, d6, d7, d8, d9, d10⟩, f0, f1, f2, f3, f4, f5, f6, f7, f8, f9, f10⟩ := R1.out.all
    obtain ⟨e0, e1, e2, e3, e4, e5, e6, e7, e8, e9, e10, e11⟩ := box_all N1.out
    go_upto_region 29 with fail
    go_upto_region 30 with fail
    go_upto_region 32 with fail
    go_wp2
    go_ret
    refine ⟨rfl, (R1.out.set 2 _), ?_⟩
    repeat (refine Fr.setCell ?_ (.inl (by simp)) _)
    exact F1.out
set_option maxRecDepth 100000 in
set_option maxHeartbeats 100000000 in
theorem spe_part_stale (b : Nat) (B : List UInt8) (s0 : Nat) (pt : Int) (K : List UInt8) (err out : Bool) (pr : Int) (bg : Bool) (key value s : ByteArray) (k vn : Int) (u f : Nat) (x : Bool) (n m : Int) (w : World) (lax : Bool) (bad : Bool) (z : Bool) (p2 : ¬ pt = 2)
    (h : SR w b #[.string ⟨B.toArray⟩, .int .i64 s0, .int .i64 pt, .bool bad, .string ⟨K.toArray⟩, .bool err, .bool out, .bool lax, .int .i64 pr, .bool bg, .bool true]) :
    Calls Tryz.prog 52 #[.pointer (some ⟨b, 0, none⟩), .agg #[.int .i64 3, .string key, .string value, .int .i64 k, .string s, .int .i64 vn, .int .u64 u, .float .f64 f, .bool x, .int .i64 n, .int .i64 m, .bool z]] w fun e w' => e = .returned (.bool false) ∧ Fr [b] w w' := by
  obtain ⟨w1, HA, HN, hw1⟩ : ∃ q, Fr [] w q ∧ q.heap[w.heap.size]? = some (.cells #[.int .i64 3, .string key, .string value, .int .i64 k, .string s, .int .i64 vn, .int .u64 u, .float .f64 f, .bool x, .int .i64 n, .int .i64 m, .bool z] 38 (0, 0)) ∧ w.alloc (.cells #[.int .i64 3, .string key, .string value, .int .i64 k, .string s, .int .i64 vn, .int .u64 u, .float .f64 f, .bool x, .int .i64 n, .int .i64 m, .bool z] 38) = q := ⟨_, (Fr.refl [] w).alloc _, heap_alloc_new _ _, rfl⟩
  have hbl : b < w.heap.size := (Array.getElem?_eq_some_iff.1 h).1
  have hbg : ¬ b = w.heap.size := by omega
  have hgb : ¬ w.heap.size = b := by omega
  have R1 := Lib.hid (h.fr HA (by simp))
  have N1 := Lib.hid HN
  have F1 : Hid (Fr [b] w w1) := Lib.hid (HA.sub (by simp))
  have HW := Lib.hid hw1
  clear h hbl HA HN hw1
  go_enter Tryz.func52, Tryz.ntmps52
  go_upto_region 39 with fail
  rw [HW.out]
  clear HW
  obtain ⟨⟨d0, d1, d2, d3, d4, d5, d6, d7, d8, d9, d10⟩, f0, f1, f2, f3, f4, f5, f6, f7, f8, f9, f10⟩ := R1.out.all
  obtain ⟨e0, e1, e2, e3, e4, e5, e6, e7, e8, e9, e10, e11⟩ := box_all N1.out
  go_upto_region 40 with fail
  go_wp2_with (go_at_call 92; refine (fails_stale b _ _ _ _ _ _ _ _ _ _ _ _ R1.out).mono ?_; rintro e wk ⟨rfl, rfl⟩)
  go_ret
  refine ⟨rfl, ?_⟩
  repeat (refine Fr.setCell ?_ (.inl (by simp)) _)
  exact F1.out
set_option maxRecDepth 100000 in
set_option maxHeartbeats 100000000 in
theorem spe_part_live (b : Nat) (B : List UInt8) (s0 : Nat) (pt : Int) (K : List UInt8) (err out : Bool) (pr : Int) (bg : Bool) (key value s : ByteArray) (k vn : Int) (u f : Nat) (x : Bool) (n m : Int) (w : World) (lax : Bool) (bad : Bool) (z : Bool) (p2 : ¬ pt = 2) (hs : s0 ≤ B.length)
    (h : SR w b #[.string ⟨B.toArray⟩, .int .i64 s0, .int .i64 pt, .bool bad, .string ⟨K.toArray⟩, .bool err, .bool out, .bool lax, .int .i64 pr, .bool bg, .bool false]) :
    Calls Tryz.prog 52 #[.pointer (some ⟨b, 0, none⟩), .agg #[.int .i64 3, .string key, .string value, .int .i64 k, .string s, .int .i64 vn, .int .u64 u, .float .f64 f, .bool x, .int .i64 n, .int .i64 m, .bool z]] w fun e w' => e = .returned (.bool true) ∧ SR w' b (failRow B s0 pt (.string ⟨K.toArray⟩) err out false (.bool lax) (.int .i64 pr) (.bool bg)) ∧ Fr [b] w w' := by
  obtain ⟨w1, HA, HN, hw1⟩ : ∃ q, Fr [] w q ∧ q.heap[w.heap.size]? = some (.cells #[.int .i64 3, .string key, .string value, .int .i64 k, .string s, .int .i64 vn, .int .u64 u, .float .f64 f, .bool x, .int .i64 n, .int .i64 m, .bool z] 38 (0, 0)) ∧ w.alloc (.cells #[.int .i64 3, .string key, .string value, .int .i64 k, .string s, .int .i64 vn, .int .u64 u, .float .f64 f, .bool x, .int .i64 n, .int .i64 m, .bool z] 38) = q := ⟨_, (Fr.refl [] w).alloc _, heap_alloc_new _ _, rfl⟩
  have hbl : b < w.heap.size := (Array.getElem?_eq_some_iff.1 h).1
  have hbg : ¬ b = w.heap.size := by omega
  have hgb : ¬ w.heap.size = b := by omega
  have R1 := Lib.hid (h.fr HA (by simp))
  have N1 := Lib.hid HN
  have F1 : Hid (Fr [b] w w1) := Lib.hid (HA.sub (by simp))
  have HW := Lib.hid hw1
  clear h hbl HA HN hw1
  go_enter Tryz.func52, Tryz.ntmps52
  go_upto_region 39 with fail
  rw [HW.out]
  clear HW
  obtain ⟨⟨d0, d1, d2, d3, d4, d5, d6, d7, d8, d9, d10⟩, f0, f1, f2, f3, f4, f5, f6, f7, f8, f9, f10⟩ := R1.out.all
  obtain ⟨e0, e1, e2, e3, e4, e5, e6, e7, e8, e9, e10, e11⟩ := box_all N1.out
  go_upto_region 40 with fail
  go_wp2_with (go_at_call 92; refine (fails_any b B s0 hs pt bad (.string ⟨K.toArray⟩) err out false (.bool lax) (.int .i64 pr) (.bool bg) _ R1.out).mono ?_; rintro e wk ⟨rfl, hr, hf⟩; have HR := Lib.hid hr; have HF := Lib.hid hf; clear hr hf)
  go_ret
  refine ⟨rfl, HR.out, Fr.trans ?_ HF.out⟩
  repeat (refine Fr.setCell ?_ (.inl (by simp)) _)
  exact F1.out
set_option maxRecDepth 100000 in
set_option maxHeartbeats 100000000 in
theorem spe_none_true (b : Nat) (B : List UInt8) (s0 : Nat) (K : List UInt8) (err out : Bool) (pr : Int) (bg : Bool) (key value s : ByteArray) (k vn : Int) (u f : Nat) (x : Bool) (n m : Int) (w : World) (lax : Bool) (stl : Bool)
    (h : SR w b #[.string ⟨B.toArray⟩, .int .i64 s0, .int .i64 2, .bool true, .string ⟨K.toArray⟩, .bool err, .bool out, .bool lax, .int .i64 pr, .bool bg, .bool stl]) :
    Calls Tryz.prog 52 #[.pointer (some ⟨b, 0, none⟩), .agg #[.int .i64 3, .string key, .string value, .int .i64 k, .string s, .int .i64 vn, .int .u64 u, .float .f64 f, .bool x, .int .i64 n, .int .i64 m, .bool true]] w fun e w' => e = .returned (.bool true) ∧ SR w' b #[.string ⟨B.toArray⟩, .int .i64 s0, .int .i64 5, .bool true, .string ⟨K.toArray⟩, .bool err, .bool out, .bool lax, .int .i64 pr, .bool bg, .bool stl] ∧ Fr [b] w w' := by
  obtain ⟨w1, HA, HN, hw1⟩ : ∃ q, Fr [] w q ∧ q.heap[w.heap.size]? = some (.cells #[.int .i64 3, .string key, .string value, .int .i64 k, .string s, .int .i64 vn, .int .u64 u, .float .f64 f, .bool x, .int .i64 n, .int .i64 m, .bool true] 38 (0, 0)) ∧ w.alloc (.cells #[.int .i64 3, .string key, .string value, .int .i64 k, .string s, .int .i64 vn, .int .u64 u, .float .f64 f, .bool x, .int .i64 n, .int .i64 m, .bool true] 38) = q := ⟨_, (Fr.refl [] w).alloc _, heap_alloc_new _ _, rfl⟩
  have hbl : b < w.heap.size := (Array.getElem?_eq_some_iff.1 h).1
  have hbg : ¬ b = w.heap.size := by omega
  have hgb : ¬ w.heap.size = b := by omega
  have R1 := Lib.hid (h.fr HA (by simp))
  have N1 := Lib.hid HN
  have F1 : Hid (Fr [b] w w1) := Lib.hid (HA.sub (by simp))
  have HW := Lib.hid hw1
  clear h hbl HA HN hw1
  go_enter Tryz.func52, Tryz.ntmps52
  go_upto_region 39 with fail
  rw [HW.out]
  clear HW
  obtain ⟨⟨d0, d1, d2, d3, d4, d5, d6, d7, d8, d9, d10⟩, f0, f1, f2, f3, f4, f5, f6, f7, f8, f9, f10⟩ := R1.out.all
  obtain ⟨e0, e1, e2, e3, e4, e5, e6, e7, e8, e9, e10, e11⟩ := box_all N1.out
  go_upto_region 42 with fail
  go_upto_region 43 with fail
  go_wp2
  go_ret
  refine ⟨rfl, (R1.out.set 2 _), ?_⟩
  repeat (refine Fr.setCell ?_ (.inl (by simp)) _)
  exact F1.out
set_option maxRecDepth 100000 in
set_option maxHeartbeats 100000000 in
theorem spe_none_false (b : Nat) (B : List UInt8) (s0 : Nat) (K : List UInt8) (err out : Bool) (pr : Int) (bg : Bool) (key value s : ByteArray) (k vn : Int) (u f : Nat) (x : Bool) (n m : Int) (hB : B.length ≤ 100000000) (w : World) (lax : Bool) (stl : Bool)
    (h : SR w b #[.string ⟨B.toArray⟩, .int .i64 s0, .int .i64 2, .bool false, .string ⟨K.toArray⟩, .bool err, .bool out, .bool lax, .int .i64 pr, .bool bg, .bool stl]) :
    Calls Tryz.prog 52 #[.pointer (some ⟨b, 0, none⟩), .agg #[.int .i64 3, .string key, .string value, .int .i64 k, .string s, .int .i64 vn, .int .u64 u, .float .f64 f, .bool x, .int .i64 n, .int .i64 m, .bool true]] w fun e w' => e = .returned (.bool true) ∧ SR w' b #[.string ⟨(B ++ [10]).toArray⟩, .int .i64 s0, .int .i64 5, .bool false, .string ⟨K.toArray⟩, .bool err, .bool out, .bool lax, .int .i64 pr, .bool bg, .bool stl] ∧ Fr [b] w w' := by
  generalize hRES : B ++ ([10] : List UInt8) = RES
  have lRES : RES.length = B.length + 1 := by rw [← hRES, List.length_append]; try rfl
  have aRES : ∀ w, (Op.stringOp .add ⟨B.toArray⟩ ⟨#[10]⟩).run Tryz.prog w = .ok (.string ⟨RES.toArray⟩) w := fun w => by rw [← hRES]; exact cat_lists w B ([10] : List UInt8) (by show B.length + 1 ≤ 9223372036854775807; omega)
  clear hRES
  obtain ⟨w1, HA, HN, hw1⟩ : ∃ q, Fr [] w q ∧ q.heap[w.heap.size]? = some (.cells #[.int .i64 3, .string key, .string value, .int .i64 k, .string s, .int .i64 vn, .int .u64 u, .float .f64 f, .bool x, .int .i64 n, .int .i64 m, .bool true] 38 (0, 0)) ∧ w.alloc (.cells #[.int .i64 3, .string key, .string value, .int .i64 k, .string s, .int .i64 vn, .int .u64 u, .float .f64 f, .bool x, .int .i64 n, .int .i64 m, .bool true] 38) = q := ⟨_, (Fr.refl [] w).alloc _, heap_alloc_new _ _, rfl⟩
  have hbl : b < w.heap.size := (Array.getElem?_eq_some_iff.1 h).1
  have hbg : ¬ b = w.heap.size := by omega
  have hgb : ¬ w.heap.size = b := by omega
  have R1 := Lib.hid (h.fr HA (by simp))
  have N1 := Lib.hid HN
  have F1 : Hid (Fr [b] w w1) := Lib.hid (HA.sub (by simp))
  have HW := Lib.hid hw1
  clear h hbl HA HN hw1
  go_enter Tryz.func52, Tryz.ntmps52
  go_upto_region 39 with fail
  rw [HW.out]
  clear HW
  obtain ⟨⟨d0, d1, d2, d3, d4, d5, d6, d7, d8, d9, d10⟩, f0, f1, f2, f3, f4, f5, f6, f7, f8, f9, f10⟩ := R1.out.all
  obtain ⟨e0, e1, e2, e3, e4, e5, e6, e7, e8, e9, e10, e11⟩ := box_all N1.out
  go_upto_region 42 with fail
  go_upto_region 43 with fail
  go_upto_region 45 with fail
  go_wp2
  go_ret
  refine ⟨rfl, ((R1.out.set 2 _).set 0 _), ?_⟩
  repeat (refine Fr.setCell ?_ (.inl (by simp)) _)
  exact F1.out
set_option maxRecDepth 100000 in
set_option maxHeartbeats 100000000 in
theorem spe_out_p_stale (b : Nat) (B : List UInt8) (s0 : Nat) (K : List UInt8) (err out : Bool) (pr : Int) (bg : Bool) (key value s : ByteArray) (k vn : Int) (u f : Nat) (x : Bool) (n m : Int) (w : World) (lax : Bool) (bad : Bool) (n0 : ¬ n < 0) (m0 : ¬ m < 0) (hw : wrap64 (n + m) < 0)
    (h : SR w b #[.string ⟨B.toArray⟩, .int .i64 s0, .int .i64 2, .bool bad, .string ⟨K.toArray⟩, .bool err, .bool out, .bool lax, .int .i64 pr, .bool bg, .bool true]) :
    Calls Tryz.prog 52 #[.pointer (some ⟨b, 0, none⟩), .agg #[.int .i64 3, .string key, .string value, .int .i64 k, .string s, .int .i64 vn, .int .u64 u, .float .f64 f, .bool x, .int .i64 n, .int .i64 m, .bool false]] w fun e w' => e = .returned (.bool false) ∧ Fr [b] w w' := by
  obtain ⟨w1, HA, HN, hw1⟩ : ∃ q, Fr [] w q ∧ q.heap[w.heap.size]? = some (.cells #[.int .i64 3, .string key, .string value, .int .i64 k, .string s, .int .i64 vn, .int .u64 u, .float .f64 f, .bool x, .int .i64 n, .int .i64 m, .bool false] 38 (0, 0)) ∧ w.alloc (.cells #[.int .i64 3, .string key, .string value, .int .i64 k, .string s, .int .i64 vn, .int .u64 u, .float .f64 f, .bool x, .int .i64 n, .int .i64 m, .bool false] 38) = q := ⟨_, (Fr.refl [] w).alloc _, heap_alloc_new _ _, rfl⟩
  have hbl : b < w.heap.size := (Array.getElem?_eq_some_iff.1 h).1
  have hbg : ¬ b = w.heap.size := by omega
  have hgb : ¬ w.heap.size = b := by omega
  have R1 := Lib.hid (h.fr HA (by simp))
  have N1 := Lib.hid HN
  have F1 : Hid (Fr [b] w w1) := Lib.hid (HA.sub (by simp))
  have HW := Lib.hid hw1
  clear h hbl HA HN hw1
  go_enter Tryz.func52, Tryz.ntmps52
  go_upto_region 39 with fail
  rw [HW.out]
  clear HW
  obtain ⟨⟨d0, d1, d2, d3, d4, d5, d6, d7, d8, d9, d10⟩, f0, f1, f2, f3, f4, f5, f6, f7, f8, f9, f10⟩ := R1.out.all
  obtain ⟨e0, e1, e2, e3, e4, e5, e6, e7, e8, e9, e10, e11⟩ := box_all N1.out
  go_upto_region 42 with fail
  go_upto_region 46 with fail
  go_upto_region 47 with fail
  go_upto_region 48 with fail
  go_wp2_with (go_at_call 92; refine (fails_stale b _ _ _ _ _ _ _ _ _ _ _ _ (R1.out.set 2 _)).mono ?_; rintro e wk ⟨rfl, rfl⟩)
  go_ret
  refine ⟨rfl, ?_⟩
  repeat (refine Fr.setCell ?_ (.inl (by simp)) _)
  exact F1.out
set_option maxRecDepth 100000 in
set_option maxHeartbeats 100000000 in
theorem spe_out_n_stale (b : Nat) (B : List UInt8) (s0 : Nat) (K : List UInt8) (err out : Bool) (pr : Int) (bg : Bool) (key value s : ByteArray) (k vn : Int) (u f : Nat) (x : Bool) (n m : Int) (w : World) (lax : Bool) (bad : Bool) (n0 : n < 0) (m0 : m < 0) (hw : ¬ wrap64 (n + m) < 0)
    (h : SR w b #[.string ⟨B.toArray⟩, .int .i64 s0, .int .i64 2, .bool bad, .string ⟨K.toArray⟩, .bool err, .bool out, .bool lax, .int .i64 pr, .bool bg, .bool true]) :
    Calls Tryz.prog 52 #[.pointer (some ⟨b, 0, none⟩), .agg #[.int .i64 3, .string key, .string value, .int .i64 k, .string s, .int .i64 vn, .int .u64 u, .float .f64 f, .bool x, .int .i64 n, .int .i64 m, .bool false]] w fun e w' => e = .returned (.bool false) ∧ Fr [b] w w' := by
  obtain ⟨w1, HA, HN, hw1⟩ : ∃ q, Fr [] w q ∧ q.heap[w.heap.size]? = some (.cells #[.int .i64 3, .string key, .string value, .int .i64 k, .string s, .int .i64 vn, .int .u64 u, .float .f64 f, .bool x, .int .i64 n, .int .i64 m, .bool false] 38 (0, 0)) ∧ w.alloc (.cells #[.int .i64 3, .string key, .string value, .int .i64 k, .string s, .int .i64 vn, .int .u64 u, .float .f64 f, .bool x, .int .i64 n, .int .i64 m, .bool false] 38) = q := ⟨_, (Fr.refl [] w).alloc _, heap_alloc_new _ _, rfl⟩
  have hbl : b < w.heap.size := (Array.getElem?_eq_some_iff.1 h).1
  have hbg : ¬ b = w.heap.size := by omega
  have hgb : ¬ w.heap.size = b := by omega
  have R1 := Lib.hid (h.fr HA (by simp))
  have N1 := Lib.hid HN
  have F1 : Hid (Fr [b] w w1) := Lib.hid (HA.sub (by simp))
  have HW := Lib.hid hw1
  clear h hbl HA HN hw1
  go_enter Tryz.func52, Tryz.ntmps52
  go_upto_region 39 with fail
  rw [HW.out]
  clear HW
  obtain ⟨⟨d0, d1, d2, d3, d4, d5, d6, d7, d8, d9, d10⟩, f0, f1, f2, f3, f4, f5, f6, f7, f8, f9, f10⟩ := R1.out.all
  obtain ⟨e0, e1, e2, e3, e4, e5, e6, e7, e8, e9, e10, e11⟩ := box_all N1.out
  go_upto_region 42 with fail
  go_upto_region 46 with fail
  go_upto_region 47 with fail
  go_upto_region 48 with fail
  go_wp2_with (go_at_call 92; refine (fails_stale b _ _ _ _ _ _ _ _ _ _ _ _ (R1.out.set 2 _)).mono ?_; rintro e wk ⟨rfl, rfl⟩)
  go_ret
  refine ⟨rfl, ?_⟩
  repeat (refine Fr.setCell ?_ (.inl (by simp)) _)
  exact F1.out
set_option maxRecDepth 100000 in
set_option maxHeartbeats 100000000 in
theorem spe_out_p_live (b : Nat) (B : List UInt8) (s0 : Nat) (K : List UInt8) (err out : Bool) (pr : Int) (bg : Bool) (key value s : ByteArray) (k vn : Int) (u f : Nat) (x : Bool) (n m : Int) (w : World) (lax : Bool) (bad : Bool) (n0 : ¬ n < 0) (m0 : ¬ m < 0) (hw : wrap64 (n + m) < 0) (hs : s0 ≤ B.length)
    (h : SR w b #[.string ⟨B.toArray⟩, .int .i64 s0, .int .i64 2, .bool bad, .string ⟨K.toArray⟩, .bool err, .bool out, .bool lax, .int .i64 pr, .bool bg, .bool false]) :
    Calls Tryz.prog 52 #[.pointer (some ⟨b, 0, none⟩), .agg #[.int .i64 3, .string key, .string value, .int .i64 k, .string s, .int .i64 vn, .int .u64 u, .float .f64 f, .bool x, .int .i64 n, .int .i64 m, .bool false]] w fun e w' => e = .returned (.bool true) ∧ SR w' b (failRow B s0 5 (.string ⟨K.toArray⟩) err out true (.bool lax) (.int .i64 pr) (.bool bg)) ∧ Fr [b] w w' := by
  obtain ⟨w1, HA, HN, hw1⟩ : ∃ q, Fr [] w q ∧ q.heap[w.heap.size]? = some (.cells #[.int .i64 3, .string key, .string value, .int .i64 k, .string s, .int .i64 vn, .int .u64 u, .float .f64 f, .bool x, .int .i64 n, .int .i64 m, .bool false] 38 (0, 0)) ∧ w.alloc (.cells #[.int .i64 3, .string key, .string value, .int .i64 k, .string s, .int .i64 vn, .int .u64 u, .float .f64 f, .bool x, .int .i64 n, .int .i64 m, .bool false] 38) = q := ⟨_, (Fr.refl [] w).alloc _, heap_alloc_new _ _, rfl⟩
  have hbl : b < w.heap.size := (Array.getElem?_eq_some_iff.1 h).1
  have hbg : ¬ b = w.heap.size := by omega
  have hgb : ¬ w.heap.size = b := by omega
  have R1 := Lib.hid (h.fr HA (by simp))
  have N1 := Lib.hid HN
  have F1 : Hid (Fr [b] w w1) := Lib.hid (HA.sub (by simp))
  have HW := Lib.hid hw1
  clear h hbl HA HN hw1
  go_enter Tryz.func52, Tryz.ntmps52
  go_upto_region 39 with fail
  rw [HW.out]
  clear HW
  obtain ⟨⟨d0, d1, d2, d3, d4, d5, d6, d7, d8, d9, d10⟩, f0, f1, f2, f3, f4, f5, f6, f7, f8, f9, f10⟩ := R1.out.all
  obtain ⟨e0, e1, e2, e3, e4, e5, e6, e7, e8, e9, e10, e11⟩ := box_all N1.out
  go_upto_region 42 with fail
  go_upto_region 46 with fail
  go_upto_region 47 with fail
  go_upto_region 48 with fail
  go_wp2_with (go_at_call 92; refine (fails_any b B s0 hs 5 bad (.string ⟨K.toArray⟩) err out true (.bool lax) (.int .i64 pr) (.bool bg) _ (R1.out.set 2 _)).mono ?_; rintro e wk ⟨rfl, hr, hf⟩; have HR := Lib.hid hr; have HF := Lib.hid hf; clear hr hf)
  go_ret
  refine ⟨rfl, HR.out, Fr.trans ?_ HF.out⟩
  repeat (refine Fr.setCell ?_ (.inl (by simp)) _)
  exact F1.out
set_option maxRecDepth 100000 in
set_option maxHeartbeats 100000000 in
theorem spe_out_n_live (b : Nat) (B : List UInt8) (s0 : Nat) (K : List UInt8) (err out : Bool) (pr : Int) (bg : Bool) (key value s : ByteArray) (k vn : Int) (u f : Nat) (x : Bool) (n m : Int) (w : World) (lax : Bool) (bad : Bool) (n0 : n < 0) (m0 : m < 0) (hw : ¬ wrap64 (n + m) < 0) (hs : s0 ≤ B.length)
    (h : SR w b #[.string ⟨B.toArray⟩, .int .i64 s0, .int .i64 2, .bool bad, .string ⟨K.toArray⟩, .bool err, .bool out, .bool lax, .int .i64 pr, .bool bg, .bool false]) :
    Calls Tryz.prog 52 #[.pointer (some ⟨b, 0, none⟩), .agg #[.int .i64 3, .string key, .string value, .int .i64 k, .string s, .int .i64 vn, .int .u64 u, .float .f64 f, .bool x, .int .i64 n, .int .i64 m, .bool false]] w fun e w' => e = .returned (.bool true) ∧ SR w' b (failRow B s0 5 (.string ⟨K.toArray⟩) err out true (.bool lax) (.int .i64 pr) (.bool bg)) ∧ Fr [b] w w' := by
  obtain ⟨w1, HA, HN, hw1⟩ : ∃ q, Fr [] w q ∧ q.heap[w.heap.size]? = some (.cells #[.int .i64 3, .string key, .string value, .int .i64 k, .string s, .int .i64 vn, .int .u64 u, .float .f64 f, .bool x, .int .i64 n, .int .i64 m, .bool false] 38 (0, 0)) ∧ w.alloc (.cells #[.int .i64 3, .string key, .string value, .int .i64 k, .string s, .int .i64 vn, .int .u64 u, .float .f64 f, .bool x, .int .i64 n, .int .i64 m, .bool false] 38) = q := ⟨_, (Fr.refl [] w).alloc _, heap_alloc_new _ _, rfl⟩
  have hbl : b < w.heap.size := (Array.getElem?_eq_some_iff.1 h).1
  have hbg : ¬ b = w.heap.size := by omega
  have hgb : ¬ w.heap.size = b := by omega
  have R1 := Lib.hid (h.fr HA (by simp))
  have N1 := Lib.hid HN
  have F1 : Hid (Fr [b] w w1) := Lib.hid (HA.sub (by simp))
  have HW := Lib.hid hw1
  clear h hbl HA HN hw1
  go_enter Tryz.func52, Tryz.ntmps52
  go_upto_region 39 with fail
  rw [HW.out]
  clear HW
  obtain ⟨⟨d0, d1, d2, d3, d4, d5, d6, d7, d8, d9, d10⟩, f0, f1, f2, f3, f4, f5, f6, f7, f8, f9, f10⟩ := R1.out.all
  obtain ⟨e0, e1, e2, e3, e4, e5, e6, e7, e8, e9, e10, e11⟩ := box_all N1.out
  go_upto_region 42 with fail
  go_upto_region 46 with fail
  go_upto_region 47 with fail
  go_upto_region 48 with fail
  go_wp2_with (go_at_call 92; refine (fails_any b B s0 hs 5 bad (.string ⟨K.toArray⟩) err out true (.bool lax) (.int .i64 pr) (.bool bg) _ (R1.out.set 2 _)).mono ?_; rintro e wk ⟨rfl, hr, hf⟩; have HR := Lib.hid hr; have HF := Lib.hid hf; clear hr hf)
  go_ret
  refine ⟨rfl, HR.out, Fr.trans ?_ HF.out⟩
  repeat (refine Fr.setCell ?_ (.inl (by simp)) _)
  exact F1.out
set_option maxRecDepth 100000 in
set_option maxHeartbeats 100000000 in
theorem spo4 (b : Nat) (B : List UInt8) (s0 : Nat) (pt : Int) (K : List UInt8) (err out : Bool) (pr : Int) (bg : Bool) (key value s : ByteArray) (k vn : Int) (u f : Nat) (x : Bool) (n m : Int) (w : World) (lax : Bool) (bad : Bool) (stl : Bool) (z : Bool)
    (h : SR w b #[.string ⟨B.toArray⟩, .int .i64 s0, .int .i64 pt, .bool bad, .string ⟨K.toArray⟩, .bool err, .bool out, .bool lax, .int .i64 pr, .bool bg, .bool stl]) :
    Calls Tryz.prog 52 #[.pointer (some ⟨b, 0, none⟩), .agg #[.int .i64 4, .string key, .string value, .int .i64 k, .string s, .int .i64 vn, .int .u64 u, .float .f64 f, .bool x, .int .i64 n, .int .i64 m, .bool z]] w fun e w' => e = .returned (.bool true) ∧ SR w' b #[.string ⟨B.toArray⟩, .int .i64 s0, .int .i64 pt, .bool bad, .string ⟨K.toArray⟩, .bool false, .bool false, .bool lax, .int .i64 pr, .bool bg, .bool stl] ∧ Fr [b] w w' := by
  obtain ⟨w1, HA, HN, hw1⟩ : ∃ q, Fr [] w q ∧ q.heap[w.heap.size]? = some (.cells #[.int .i64 4, .string key, .string value, .int .i64 k, .string s, .int .i64 vn, .int .u64 u, .float .f64 f, .bool x, .int .i64 n, .int .i64 m, .bool z] 38 (0, 0)) ∧ w.alloc (.cells #[.int .i64 4, .string key, .string value, .int .i64 k, .string s, .int .i64 vn, .int .u64 u, .float .f64 f, .bool x, .int .i64 n, .int .i64 m, .bool z] 38) = q := ⟨_, (Fr.refl [] w).alloc _, heap_alloc_new _ _, rfl⟩
  have hbl : b < w.heap.size := (Array.getElem?_eq_some_iff.1 h).1
  have hbg : ¬ b = w.heap.size := by omega
  have hgb : ¬ w.heap.size = b := by omega
  have R1 := Lib.hid (h.fr HA (by simp))
  have N1 := Lib.hid HN
  have F1 : Hid (Fr [b] w w1) := Lib.hid (HA.sub (by simp))
  have HW := Lib.hid hw1
  clear h hbl HA HN hw1
  go_enter Tryz.func52, Tryz.ntmps52
  go_upto_region 52 with fail
  rw [HW.out]
  clear HW
  obtain ⟨⟨d0, d1, d2, d3, d4, d5, d6, d7, d8, d9, d10⟩, f0, f1, f2, f3, f4, f5, f6, f7, f8, f9, f10⟩ := R1.out.all
  obtain ⟨e0, e1, e2, e3, e4, e5, e6, e7, e8, e9, e10, e11⟩ := box_all N1.out
  go_wp2
  go_ret
  refine ⟨rfl, ((R1.out.set 5 _).set 6 _), ?_⟩
  repeat (refine Fr.setCell ?_ (.inl (by simp)) _)
  exact F1.out
set_option maxRecDepth 100000 in
set_option maxHeartbeats 100000000 in
theorem spo5 (b : Nat) (B : List UInt8) (s0 : Nat) (pt : Int) (K : List UInt8) (err out : Bool) (pr : Int) (bg : Bool) (key value s : ByteArray) (k vn : Int) (u f : Nat) (x : Bool) (n m : Int) (w : World) (lax : Bool) (bad : Bool) (stl : Bool) (z : Bool)
    (h : SR w b #[.string ⟨B.toArray⟩, .int .i64 s0, .int .i64 pt, .bool bad, .string ⟨K.toArray⟩, .bool err, .bool out, .bool lax, .int .i64 pr, .bool bg, .bool stl]) :
    Calls Tryz.prog 52 #[.pointer (some ⟨b, 0, none⟩), .agg #[.int .i64 5, .string key, .string value, .int .i64 k, .string s, .int .i64 vn, .int .u64 u, .float .f64 f, .bool x, .int .i64 n, .int .i64 m, .bool z]] w fun e w' => e = .returned (.bool true) ∧ SR w' b #[.string ⟨#[]⟩, .int .i64 s0, .int .i64 0, .bool bad, .string ⟨K.toArray⟩, .bool false, .bool false, .bool lax, .int .i64 pr, .bool bg, .bool bg] ∧ Fr [b] w w' := by
  obtain ⟨w1, HA, HN, hw1⟩ : ∃ q, Fr [] w q ∧ q.heap[w.heap.size]? = some (.cells #[.int .i64 5, .string key, .string value, .int .i64 k, .string s, .int .i64 vn, .int .u64 u, .float .f64 f, .bool x, .int .i64 n, .int .i64 m, .bool z] 38 (0, 0)) ∧ w.alloc (.cells #[.int .i64 5, .string key, .string value, .int .i64 k, .string s, .int .i64 vn, .int .u64 u, .float .f64 f, .bool x, .int .i64 n, .int .i64 m, .bool z] 38) = q := ⟨_, (Fr.refl [] w).alloc _, heap_alloc_new _ _, rfl⟩
  have hbl : b < w.heap.size := (Array.getElem?_eq_some_iff.1 h).1
  have hbg : ¬ b = w.heap.size := by omega
  have hgb : ¬ w.heap.size = b := by omega
  have R1 := Lib.hid (h.fr HA (by simp))
  have N1 := Lib.hid HN
  have F1 : Hid (Fr [b] w w1) := Lib.hid (HA.sub (by simp))
  have HW := Lib.hid hw1
  clear h hbl HA HN hw1
  go_enter Tryz.func52, Tryz.ntmps52
  go_upto_region 55 with fail
  rw [HW.out]
  clear HW
  obtain ⟨⟨d0, d1, d2, d3, d4, d5, d6, d7, d8, d9, d10⟩, f0, f1, f2, f3, f4, f5, f6, f7, f8, f9, f10⟩ := R1.out.all
  obtain ⟨e0, e1, e2, e3, e4, e5, e6, e7, e8, e9, e10, e11⟩ := box_all N1.out
  go_wp2
  go_ret
  refine ⟨rfl, (((((R1.out.set 0 _).set 2 _).set 5 _).set 6 _).set 10 _), ?_⟩
  repeat (refine Fr.setCell ?_ (.inl (by simp)) _)
  exact F1.out
set_option maxRecDepth 100000 in
set_option maxHeartbeats 100000000 in
theorem spo8 (b : Nat) (B : List UInt8) (s0 : Nat) (pt : Int) (K : List UInt8) (err out : Bool) (pr : Int) (bg : Bool) (key value s : ByteArray) (k vn : Int) (u f : Nat) (x : Bool) (n m : Int) (w : World) (lax : Bool) (bad : Bool) (stl : Bool) (z : Bool)
    (h : SR w b #[.string ⟨B.toArray⟩, .int .i64 s0, .int .i64 pt, .bool bad, .string ⟨K.toArray⟩, .bool err, .bool out, .bool lax, .int .i64 pr, .bool bg, .bool stl]) :
    Calls Tryz.prog 52 #[.pointer (some ⟨b, 0, none⟩), .agg #[.int .i64 8, .string key, .string value, .int .i64 k, .string s, .int .i64 vn, .int .u64 u, .float .f64 f, .bool x, .int .i64 n, .int .i64 m, .bool z]] w fun e w' => e = .returned (.bool true) ∧ SR w' b #[.string key, .int .i64 s0, .int .i64 0, .bool bad, .string ⟨K.toArray⟩, .bool false, .bool false, .bool lax, .int .i64 pr, .bool bg, .bool bg] ∧ Fr [b] w w' := by
  obtain ⟨w1, HA, HN, hw1⟩ : ∃ q, Fr [] w q ∧ q.heap[w.heap.size]? = some (.cells #[.int .i64 8, .string key, .string value, .int .i64 k, .string s, .int .i64 vn, .int .u64 u, .float .f64 f, .bool x, .int .i64 n, .int .i64 m, .bool z] 38 (0, 0)) ∧ w.alloc (.cells #[.int .i64 8, .string key, .string value, .int .i64 k, .string s, .int .i64 vn, .int .u64 u, .float .f64 f, .bool x, .int .i64 n, .int .i64 m, .bool z] 38) = q := ⟨_, (Fr.refl [] w).alloc _, heap_alloc_new _ _, rfl⟩
  have hbl : b < w.heap.size := (Array.getElem?_eq_some_iff.1 h).1
  have hbg : ¬ b = w.heap.size := by omega
  have hgb : ¬ w.heap.size = b := by omega
  have R1 := Lib.hid (h.fr HA (by simp))
  have N1 := Lib.hid HN
  have F1 : Hid (Fr [b] w w1) := Lib.hid (HA.sub (by simp))
  have HW := Lib.hid hw1
  clear h hbl HA HN hw1
  go_enter Tryz.func52, Tryz.ntmps52
  go_upto_region 55 with fail
  rw [HW.out]
  clear HW
  obtain ⟨⟨d0, d1, d2, d3, d4, d5, d6, d7, d8, d9, d10⟩, f0, f1, f2, f3, f4, f5, f6, f7, f8, f9, f10⟩ := R1.out.all
  obtain ⟨e0, e1, e2, e3, e4, e5, e6, e7, e8, e9, e10, e11⟩ := box_all N1.out
  go_wp2
  go_ret
  refine ⟨rfl, ((((((R1.out.set 0 _).set 0 _).set 2 _).set 5 _).set 6 _).set 10 _), ?_⟩
  repeat (refine Fr.setCell ?_ (.inl (by simp)) _)
  exact F1.out
set_option maxRecDepth 100000 in
set_option maxHeartbeats 100000000 in
theorem spo6 (b : Nat) (B : List UInt8) (s0 : Nat) (pt : Int) (K : List UInt8) (err out : Bool) (pr : Int) (bg : Bool) (key value s : ByteArray) (k vn : Int) (u f : Nat) (x : Bool) (n m : Int) (w : World) (lax : Bool) (bad : Bool) (stl : Bool) (z : Bool) (tk : Int) (hT : ∀ w, Calls Tryz.prog 93 #[.int .i64 n] w fun e w' => e = .returned (.int .i64 tk) ∧ Fr [] w w')
    (h : SR w b #[.string ⟨B.toArray⟩, .int .i64 s0, .int .i64 pt, .bool bad, .string ⟨K.toArray⟩, .bool err, .bool out, .bool lax, .int .i64 pr, .bool bg, .bool stl]) :
    Calls Tryz.prog 52 #[.pointer (some ⟨b, 0, none⟩), .agg #[.int .i64 6, .string key, .string value, .int .i64 k, .string s, .int .i64 vn, .int .u64 u, .float .f64 f, .bool x, .int .i64 n, .int .i64 m, .bool z]] w fun e w' => e = .returned (.bool true) ∧ SR w' b #[.string ⟨B.toArray⟩, .int .i64 s0, .int .i64 pt, .bool bad, .string ⟨K.toArray⟩, .bool err, .bool out, .bool lax, .int .i64 tk, .bool bg, .bool stl] ∧ Fr [b] w w' := by
  have HT := Lib.hid hT
  clear hT
  obtain ⟨w1, HA, HN, hw1⟩ : ∃ q, Fr [] w q ∧ q.heap[w.heap.size]? = some (.cells #[.int .i64 6, .string key, .string value, .int .i64 k, .string s, .int .i64 vn, .int .u64 u, .float .f64 f, .bool x, .int .i64 n, .int .i64 m, .bool z] 38 (0, 0)) ∧ w.alloc (.cells #[.int .i64 6, .string key, .string value, .int .i64 k, .string s, .int .i64 vn, .int .u64 u, .float .f64 f, .bool x, .int .i64 n, .int .i64 m, .bool z] 38) = q := ⟨_, (Fr.refl [] w).alloc _, heap_alloc_new _ _, rfl⟩
  have hbl : b < w.heap.size := (Array.getElem?_eq_some_iff.1 h).1
  have hbg : ¬ b = w.heap.size := by omega
  have hgb : ¬ w.heap.size = b := by omega
  have R1 := Lib.hid (h.fr HA (by simp))
  have N1 := Lib.hid HN
  have F1 : Hid (Fr [b] w w1) := Lib.hid (HA.sub (by simp))
  have HW := Lib.hid hw1
  clear h hbl HA HN hw1
  go_enter Tryz.func52, Tryz.ntmps52
  go_upto_region 60 with fail
  rw [HW.out]
  clear HW
  obtain ⟨⟨d0, d1, d2, d3, d4, d5, d6, d7, d8, d9, d10⟩, f0, f1, f2, f3, f4, f5, f6, f7, f8, f9, f10⟩ := R1.out.all
  obtain ⟨e0, e1, e2, e3, e4, e5, e6, e7, e8, e9, e10, e11⟩ := box_all N1.out
  go_upto_region 63 with (go_at_call 93; refine (HT.out _).mono ?_; rintro e w2 ⟨rfl, hf⟩; have R2 := Lib.hid (R1.out.fr hf (by simp)); have FF := Lib.hid hf; have a8 := frozen_of_row w2 b 8 _ 94 R2.out; have b8 := cell_of_row w2 b 8 _ 94 _ R2.out; clear hf)
  go_wp2
  go_ret
  exact ⟨rfl, R2.out.set 8 _, ((F1.out.trans (FF.out.sub (by simp))).setCell (.inl (by simp)) _)⟩
set_option maxRecDepth 100000 in
set_option maxHeartbeats 100000000 in
theorem spo7 (b : Nat) (B : List UInt8) (s0 : Nat) (pt : Int) (K : List UInt8) (err out : Bool) (pr : Int) (bg : Bool) (key value s : ByteArray) (k vn : Int) (u f : Nat) (x : Bool) (n m : Int) (w : World) (lax : Bool) (bad : Bool) (stl : Bool) (z : Bool)
    (h : SR w b #[.string ⟨B.toArray⟩, .int .i64 s0, .int .i64 pt, .bool bad, .string ⟨K.toArray⟩, .bool err, .bool out, .bool lax, .int .i64 pr, .bool bg, .bool stl]) :
    Calls Tryz.prog 52 #[.pointer (some ⟨b, 0, none⟩), .agg #[.int .i64 7, .string key, .string value, .int .i64 k, .string s, .int .i64 vn, .int .u64 u, .float .f64 f, .bool x, .int .i64 n, .int .i64 m, .bool z]] w fun e w' => e = .returned (.bool true) ∧ SR w' b #[.string ⟨B.toArray⟩, .int .i64 s0, .int .i64 pt, .bool bad, .string ⟨K.toArray⟩, .bool err, .bool out, .bool z, .int .i64 pr, .bool bg, .bool stl] ∧ Fr [b] w w' := by
  obtain ⟨w1, HA, HN, hw1⟩ : ∃ q, Fr [] w q ∧ q.heap[w.heap.size]? = some (.cells #[.int .i64 7, .string key, .string value, .int .i64 k, .string s, .int .i64 vn, .int .u64 u, .float .f64 f, .bool x, .int .i64 n, .int .i64 m, .bool z] 38 (0, 0)) ∧ w.alloc (.cells #[.int .i64 7, .string key, .string value, .int .i64 k, .string s, .int .i64 vn, .int .u64 u, .float .f64 f, .bool x, .int .i64 n, .int .i64 m, .bool z] 38) = q := ⟨_, (Fr.refl [] w).alloc _, heap_alloc_new _ _, rfl⟩
  have hbl : b < w.heap.size := (Array.getElem?_eq_some_iff.1 h).1
  have hbg : ¬ b = w.heap.size := by omega
  have hgb : ¬ w.heap.size = b := by omega
  have R1 := Lib.hid (h.fr HA (by simp))
  have N1 := Lib.hid HN
  have F1 : Hid (Fr [b] w w1) := Lib.hid (HA.sub (by simp))
  have HW := Lib.hid hw1
  clear h hbl HA HN hw1
  go_enter Tryz.func52, Tryz.ntmps52
  go_upto_region 62 with fail
  rw [HW.out]
  clear HW
  obtain ⟨⟨d0, d1, d2, d3, d4, d5, d6, d7, d8, d9, d10⟩, f0, f1, f2, f3, f4, f5, f6, f7, f8, f9, f10⟩ := R1.out.all
  obtain ⟨e0, e1, e2, e3, e4, e5, e6, e7, e8, e9, e10, e11⟩ := box_all N1.out
  go_wp2
  go_ret
  refine ⟨rfl, (R1.out.set 7 _), ?_⟩
  repeat (refine Fr.setCell ?_ (.inl (by simp)) _)
  exact F1.out
end Go.Proofs.YtaaogjhaokaggaaGreatDoor
