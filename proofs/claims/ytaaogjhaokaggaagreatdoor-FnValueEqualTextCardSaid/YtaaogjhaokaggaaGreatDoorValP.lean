import Derived.Test.YtaaogjhaokaggaaGreatDoorValB
namespace Go.Proofs.YtaaogjhaokaggaaGreatDoor
open Go.RowKit

theorem LV.frS {S : List Nat} {w w' : World} {u : Value} {x : Val} (h : Fr S w w') (hV : LV w u x) (hb : ∀ g, lvBlock u = some g → g ∉ S) : LV w' u x := by
  cases x with
  | str s =>
    obtain ⟨t, rfl, ht⟩ := hV
    exact ⟨t, rfl, ht.fr h (fun g hg => hb g (by simp [lvBlock, hg]))⟩
  | int n => exact hV
  | uint n => exact hV
  | flt n => exact hV
  | bool b => exact hV
theorem lv_shape0 {w : World} {v : Value} {x : Val} (h : LV w v x) : ∃ n a c d k, v = .agg #[.int .u64 n, .slice a c d, .int .u8 k] := by
  cases x with
  | str s =>
    obtain ⟨t, rfl, ht⟩ := h
    rcases ht with ⟨rfl, _⟩ | ⟨g, cap, rfl, _⟩ <;> exact ⟨_, _, _, _, _, rfl⟩
  | int n => exact ⟨_, _, _, _, _, h.1⟩
  | uint n => exact ⟨_, _, _, _, _, h.1⟩
  | flt n => exact ⟨_, _, _, _, _, h⟩
  | bool b => exact ⟨_, _, _, _, _, h⟩

/-- The two boxes ahead of impl.value's work. -/
def vb0 (kind : Int) (s : ByteArray) (n : Int) (u f : Nat) (x : Bool) (w : World) : World := (w.alloc (.cells #[.int .i64 kind, .string s, .int .i64 n, .int .u64 u, .float .f64 f, .bool x] 25)).alloc (.cells #[.int .u64 0, .slice none 0 0, .int .u8 0] 69)
theorem vb0_fr (kind : Int) (s : ByteArray) (n : Int) (u f : Nat) (x : Bool) (w : World) : Fr [] w (vb0 kind s n u f x w) := ((Fr.refl [] w).alloc _).alloc _
theorem vb0_heap (kind : Int) (s : ByteArray) (n : Int) (u f : Nat) (x : Bool) (w : World) : (vb0 kind s n u f x w).heap[w.heap.size + 1]? = some (.cells #[.int .u64 0, .slice none 0 0, .int .u8 0] 69 (0, 0)) := heap_alloc2_new _ _ _
theorem vb0_size (kind : Int) (s : ByteArray) (n : Int) (u f : Nat) (x : Bool) (w : World) : (vb0 kind s n u f x w).heap.size = w.heap.size + 2 := by simp [vb0]
/-- The store of the result. -/
theorem put_fr {w : World} {g : Nat} (a b c : Value) : Fr [g] w (((w.setCell ⟨g, 0, none⟩ a).setCell ⟨g, 1, none⟩ b).setCell ⟨g, 2, none⟩ c) :=
  (((Fr.refl [g] w).setCell (.inl (by simp)) _).setCell (.inl (by simp)) _).setCell (.inl (by simp)) _
theorem put_row {w : World} {g : Nat} {t : TypeId} {p q r : Value} (h : w.heap[g]? = some (.cells #[p, q, r] t (0, 0))) (a b c : Value) : (((w.setCell ⟨g, 0, none⟩ a).setCell ⟨g, 1, none⟩ b).setCell ⟨g, 2, none⟩ c).heap[g]? = some (.cells #[a, b, c] t (0, 0)) :=
  heap_setCell_same _ _ 2 _ t _ (heap_setCell_same _ _ 1 _ t _ (heap_setCell_same _ _ 0 _ t _ h))

set_option maxRecDepth 100000 in
set_option maxHeartbeats 2000000 in
theorem value_str (s : ByteArray) (n : Int) (u f : Nat) (x : Bool) (w : World) {B : Nat} {ea : Addr} (hV : ValidSaid) (hs : s.size ≤ 1000000) (hG : Gv B ea w) (hv : Lib.validD s.data.toList = true) :
    Calls Tryz.prog 35 #[.agg #[.int .i64 1, .string s, .int .i64 n, .int .u64 u, .float .f64 f, .bool x]] w (Made w (some (.str s.data.toList))) := by
  have HZ := Lib.hid (vb0_heap 1 s n u f x w)
  have HSZ := Lib.hid (vb0_size 1 s n u f x w)
  have HF0 := Lib.hid (vb0_fr 1 s n u f x w)
  have hS := stringValue_any hV s hs _ (hG.fr HF0.out (by simp))
  rw [hv, if_pos rfl] at hS
  have HS := Lib.hid hS; clear hS hG hv
  go_enter Tryz.func35, Tryz.ntmps35
  go_wp2_with (go_at_call 58; refine HS.out.mono ?_; rintro e w3 ⟨hfx, v, rfl, hlv, hlb⟩; obtain ⟨n', a', c', d', k', rfl⟩ := lv_shape0 hlv; have HLV := Lib.hid hlv; have HLB := Lib.hid hlb; clear hlv hlb; have HB := Lib.hid (hfx.blk HZ.out (by simp)); have d0 := cell_of_row w3 (w.heap.size + 1) 0 _ 69 _ HB.out; have d1 := cell_of_row w3 (w.heap.size + 1) 1 _ 69 _ HB.out; have d2 := cell_of_row w3 (w.heap.size + 1) 2 _ 69 _ HB.out; have f0 := frozen_of_row w3 (w.heap.size + 1) 0 _ 69 HB.out; have f1 := frozen_of_row w3 (w.heap.size + 1) 1 _ 69 HB.out; have f2 := frozen_of_row w3 (w.heap.size + 1) 2 _ 69 HB.out)
  (try simp only [Exit.inBlock, Exit.then])
  refine bodyPost_ret (results_row_tmp rfl _ _ (w.heap.size + 1) 69 #[.int .u64 n', .slice a' c' d', .int .u8 k'] (0, 0) _ rfl (put_row HB.out _ _ _) Tryz.underlying69 rfl rfl) rfl ?_
  have hf3 : Fr [] w w3 := HF0.out.trans hfx
  refine ⟨((hf3.setCell (.inr (by simp)) _).setCell (.inr (by simp)) _).setCell (.inr (by simp)) _, ?_⟩
  refine ⟨_, rfl, HLV.out.frS (put_fr _ _ _) (fun g hg hm => ?_), fun g hg => ?_⟩
  · have := HLB.out g hg; have := HSZ.out; simp at hm; omega
  · have := HLB.out g hg; have := HSZ.out; omega

set_option maxRecDepth 100000 in
set_option maxHeartbeats 2000000 in
theorem value_bad (s : ByteArray) (n : Int) (u f : Nat) (x : Bool) (w : World) {B : Nat} {ea : Addr} (hV : ValidSaid) (hs : s.size ≤ 1000000) (hG : Gv B ea w) (hv : Lib.validD s.data.toList = false) :
    Calls Tryz.prog 35 #[.agg #[.int .i64 1, .string s, .int .i64 n, .int .u64 u, .float .f64 f, .bool x]] w (Made w (none)) := by
  have HZ := Lib.hid (vb0_heap 1 s n u f x w)
  have HSZ := Lib.hid (vb0_size 1 s n u f x w)
  have HF0 := Lib.hid (vb0_fr 1 s n u f x w)
  have hS := stringValue_any hV s hs _ (hG.fr HF0.out (by simp))
  rw [hv, if_neg (by decide)] at hS
  have HS := Lib.hid hS; clear hS hG hv
  go_enter Tryz.func35, Tryz.ntmps35
  go_wp2_with (go_at_call 58; refine HS.out.mono ?_; rintro e w3 ⟨hfx, v, rfl, n', a', c', d', k', rfl⟩; have HB := Lib.hid (hfx.blk HZ.out (by simp)); have d0 := cell_of_row w3 (w.heap.size + 1) 0 _ 69 _ HB.out; have d1 := cell_of_row w3 (w.heap.size + 1) 1 _ 69 _ HB.out; have d2 := cell_of_row w3 (w.heap.size + 1) 2 _ 69 _ HB.out; have f0 := frozen_of_row w3 (w.heap.size + 1) 0 _ 69 HB.out; have f1 := frozen_of_row w3 (w.heap.size + 1) 1 _ 69 HB.out; have f2 := frozen_of_row w3 (w.heap.size + 1) 2 _ 69 HB.out)
  (try simp only [Exit.inBlock, Exit.then])
  refine bodyPost_ret (results_row_tmp rfl _ _ (w.heap.size + 1) 69 #[.int .u64 n', .slice a' c' d', .int .u8 k'] (0, 0) _ rfl (put_row HB.out _ _ _) Tryz.underlying69 rfl rfl) rfl ?_
  have hf3 : Fr [] w w3 := HF0.out.trans hfx
  refine ⟨((hf3.setCell (.inr (by simp)) _).setCell (.inr (by simp)) _).setCell (.inr (by simp)) _, ?_⟩
  exact ⟨_, rfl, _, _, _, _, _, rfl⟩

set_option maxRecDepth 100000 in
set_option maxHeartbeats 2000000 in
theorem value_int (s : ByteArray) (n : Int) (u f : Nat) (x : Bool) (w : World) (h0 : -9223372036854775808 ≤ n) (h1 : n ≤ 9223372036854775807) :
    Calls Tryz.prog 35 #[.agg #[.int .i64 2, .string s, .int .i64 n, .int .u64 u, .float .f64 f, .bool x]] w (Made w (some (.int n))) := by
  have HZ := Lib.hid (vb0_heap 2 s n u f x w)
  have HSZ := Lib.hid (vb0_size 2 s n u f x w)
  have HF0 := Lib.hid (vb0_fr 2 s n u f x w)
  have HS := Lib.hid (intValue_any n (vb0 2 s n u f x w))
  go_enter Tryz.func35, Tryz.ntmps35
  go_wp2_with (go_at_call 59; refine HS.out.mono ?_; rintro e w3 ⟨rfl, hfx⟩; have HB := Lib.hid (hfx.blk HZ.out (by simp)); have d0 := cell_of_row w3 (w.heap.size + 1) 0 _ 69 _ HB.out; have d1 := cell_of_row w3 (w.heap.size + 1) 1 _ 69 _ HB.out; have d2 := cell_of_row w3 (w.heap.size + 1) 2 _ 69 _ HB.out; have f0 := frozen_of_row w3 (w.heap.size + 1) 0 _ 69 HB.out; have f1 := frozen_of_row w3 (w.heap.size + 1) 1 _ 69 HB.out; have f2 := frozen_of_row w3 (w.heap.size + 1) 2 _ 69 HB.out)
  (try simp only [Exit.inBlock, Exit.then])
  refine bodyPost_ret (results_row_tmp rfl _ _ (w.heap.size + 1) 69 #[.int .u64 (n % 18446744073709551616), .slice none 0 0, .int .u8 2] (0, 0) _ rfl (put_row HB.out _ _ _) Tryz.underlying69 rfl rfl) rfl ?_
  have hf3 : Fr [] w w3 := HF0.out.trans hfx
  refine ⟨((hf3.setCell (.inr (by simp)) _).setCell (.inr (by simp)) _).setCell (.inr (by simp)) _, ?_⟩
  exact ⟨_, rfl, ⟨rfl, h0, h1⟩, fun g hg => by simp [lvBlock, Value.ownBlock] at hg⟩

set_option maxRecDepth 100000 in
set_option maxHeartbeats 2000000 in
theorem value_uint (s : ByteArray) (n : Int) (u f : Nat) (x : Bool) (w : World) (h0 : u < 18446744073709551616) :
    Calls Tryz.prog 35 #[.agg #[.int .i64 3, .string s, .int .i64 n, .int .u64 u, .float .f64 f, .bool x]] w (Made w (some (.uint u))) := by
  have HZ := Lib.hid (vb0_heap 3 s n u f x w)
  have HSZ := Lib.hid (vb0_size 3 s n u f x w)
  have HF0 := Lib.hid (vb0_fr 3 s n u f x w)
  have HS := Lib.hid (uintValue_any u (vb0 3 s n u f x w))
  go_enter Tryz.func35, Tryz.ntmps35
  go_wp2_with (go_at_call 60; refine HS.out.mono ?_; rintro e w3 ⟨rfl, hfx⟩; have HB := Lib.hid (hfx.blk HZ.out (by simp)); have d0 := cell_of_row w3 (w.heap.size + 1) 0 _ 69 _ HB.out; have d1 := cell_of_row w3 (w.heap.size + 1) 1 _ 69 _ HB.out; have d2 := cell_of_row w3 (w.heap.size + 1) 2 _ 69 _ HB.out; have f0 := frozen_of_row w3 (w.heap.size + 1) 0 _ 69 HB.out; have f1 := frozen_of_row w3 (w.heap.size + 1) 1 _ 69 HB.out; have f2 := frozen_of_row w3 (w.heap.size + 1) 2 _ 69 HB.out)
  (try simp only [Exit.inBlock, Exit.then])
  refine bodyPost_ret (results_row_tmp rfl _ _ (w.heap.size + 1) 69 #[.int .u64 u, .slice none 0 0, .int .u8 3] (0, 0) _ rfl (put_row HB.out _ _ _) Tryz.underlying69 rfl rfl) rfl ?_
  have hf3 : Fr [] w w3 := HF0.out.trans hfx
  refine ⟨((hf3.setCell (.inr (by simp)) _).setCell (.inr (by simp)) _).setCell (.inr (by simp)) _, ?_⟩
  exact ⟨_, rfl, ⟨rfl, h0⟩, fun g hg => by simp [lvBlock, Value.ownBlock] at hg⟩

set_option maxRecDepth 100000 in
set_option maxHeartbeats 2000000 in
theorem value_bool (s : ByteArray) (n : Int) (u f : Nat) (x : Bool) (w : World)  :
    Calls Tryz.prog 35 #[.agg #[.int .i64 5, .string s, .int .i64 n, .int .u64 u, .float .f64 f, .bool x]] w (Made w (some (.bool x))) := by
  have HZ := Lib.hid (vb0_heap 5 s n u f x w)
  have HSZ := Lib.hid (vb0_size 5 s n u f x w)
  have HF0 := Lib.hid (vb0_fr 5 s n u f x w)
  obtain ⟨m, hm⟩ : ∃ m : Int, m = if x then 1 else 0 := ⟨_, rfl⟩
  have HS := Lib.hid (boolValue_any x (vb0 5 s n u f x w))
  rw [← hm] at HS
  have HM := Lib.hid hm; clear hm
  go_enter Tryz.func35, Tryz.ntmps35
  go_wp2_with (go_at_call 62; refine HS.out.mono ?_; rintro e w3 ⟨rfl, hfx⟩; have HB := Lib.hid (hfx.blk HZ.out (by simp)); have d0 := cell_of_row w3 (w.heap.size + 1) 0 _ 69 _ HB.out; have d1 := cell_of_row w3 (w.heap.size + 1) 1 _ 69 _ HB.out; have d2 := cell_of_row w3 (w.heap.size + 1) 2 _ 69 _ HB.out; have f0 := frozen_of_row w3 (w.heap.size + 1) 0 _ 69 HB.out; have f1 := frozen_of_row w3 (w.heap.size + 1) 1 _ 69 HB.out; have f2 := frozen_of_row w3 (w.heap.size + 1) 2 _ 69 HB.out)
  (try simp only [Exit.inBlock, Exit.then])
  refine bodyPost_ret (results_row_tmp rfl _ _ (w.heap.size + 1) 69 #[.int .u64 m, .slice none 0 0, .int .u8 5] (0, 0) _ rfl (put_row HB.out _ _ _) Tryz.underlying69 rfl rfl) rfl ?_
  have hf3 : Fr [] w w3 := HF0.out.trans hfx
  refine ⟨((hf3.setCell (.inr (by simp)) _).setCell (.inr (by simp)) _).setCell (.inr (by simp)) _, ?_⟩
  exact ⟨_, rfl, by rw [HM.out]; rfl, fun g hg => by simp [lvBlock, Value.ownBlock] at hg⟩

set_option maxRecDepth 100000 in
set_option maxHeartbeats 2000000 in
theorem value_flt (s : ByteArray) (n : Int) (u f : Nat) (x : Bool) (w : World) (hFV : FloatValueSaid) (hv : fin64 f = true) :
    Calls Tryz.prog 35 #[.agg #[.int .i64 4, .string s, .int .i64 n, .int .u64 u, .float .f64 f, .bool x]] w (Made w (some (.flt f))) := by
  have HZ := Lib.hid (vb0_heap 4 s n u f x w)
  have HSZ := Lib.hid (vb0_size 4 s n u f x w)
  have HF0 := Lib.hid (vb0_fr 4 s n u f x w)
  have hS := hFV f (vb0 4 s n u f x w)
  rw [hv, if_pos rfl] at hS
  have HS := Lib.hid hS; clear hS hFV hv
  go_enter Tryz.func35, Tryz.ntmps35
  go_wp2_with (go_at_call 61; refine HS.out.mono ?_; rintro e w3 ⟨hfx, v, rfl, hlv, hlb⟩; obtain ⟨n', a', c', d', k', rfl⟩ := lv_shape0 hlv; have HLV := Lib.hid hlv; have HLB := Lib.hid hlb; clear hlv hlb; have HB := Lib.hid (hfx.blk HZ.out (by simp)); have d0 := cell_of_row w3 (w.heap.size + 1) 0 _ 69 _ HB.out; have d1 := cell_of_row w3 (w.heap.size + 1) 1 _ 69 _ HB.out; have d2 := cell_of_row w3 (w.heap.size + 1) 2 _ 69 _ HB.out; have f0 := frozen_of_row w3 (w.heap.size + 1) 0 _ 69 HB.out; have f1 := frozen_of_row w3 (w.heap.size + 1) 1 _ 69 HB.out; have f2 := frozen_of_row w3 (w.heap.size + 1) 2 _ 69 HB.out)
  (try simp only [Exit.inBlock, Exit.then])
  refine bodyPost_ret (results_row_tmp rfl _ _ (w.heap.size + 1) 69 #[.int .u64 n', .slice a' c' d', .int .u8 k'] (0, 0) _ rfl (put_row HB.out _ _ _) Tryz.underlying69 rfl rfl) rfl ?_
  have hf3 : Fr [] w w3 := HF0.out.trans hfx
  refine ⟨((hf3.setCell (.inr (by simp)) _).setCell (.inr (by simp)) _).setCell (.inr (by simp)) _, ?_⟩
  refine ⟨_, rfl, HLV.out.frS (put_fr _ _ _) (fun g hg hm => ?_), fun g hg => ?_⟩
  · have := HLB.out g hg; have := HSZ.out; simp at hm; omega
  · have := HLB.out g hg; have := HSZ.out; omega

set_option maxRecDepth 100000 in
set_option maxHeartbeats 2000000 in
theorem value_inf (s : ByteArray) (n : Int) (u f : Nat) (x : Bool) (w : World) (hFV : FloatValueSaid) (hv : fin64 f = false) :
    Calls Tryz.prog 35 #[.agg #[.int .i64 4, .string s, .int .i64 n, .int .u64 u, .float .f64 f, .bool x]] w (Made w (none)) := by
  have HZ := Lib.hid (vb0_heap 4 s n u f x w)
  have HSZ := Lib.hid (vb0_size 4 s n u f x w)
  have HF0 := Lib.hid (vb0_fr 4 s n u f x w)
  have hS := hFV f (vb0 4 s n u f x w)
  rw [hv, if_neg (by decide)] at hS
  have HS := Lib.hid hS; clear hS hFV hv
  go_enter Tryz.func35, Tryz.ntmps35
  go_wp2_with (go_at_call 61; refine HS.out.mono ?_; rintro e w3 ⟨hfx, v, rfl, n', a', c', d', k', rfl⟩; have HB := Lib.hid (hfx.blk HZ.out (by simp)); have d0 := cell_of_row w3 (w.heap.size + 1) 0 _ 69 _ HB.out; have d1 := cell_of_row w3 (w.heap.size + 1) 1 _ 69 _ HB.out; have d2 := cell_of_row w3 (w.heap.size + 1) 2 _ 69 _ HB.out; have f0 := frozen_of_row w3 (w.heap.size + 1) 0 _ 69 HB.out; have f1 := frozen_of_row w3 (w.heap.size + 1) 1 _ 69 HB.out; have f2 := frozen_of_row w3 (w.heap.size + 1) 2 _ 69 HB.out)
  (try simp only [Exit.inBlock, Exit.then])
  refine bodyPost_ret (results_row_tmp rfl _ _ (w.heap.size + 1) 69 #[.int .u64 n', .slice a' c' d', .int .u8 k'] (0, 0) _ rfl (put_row HB.out _ _ _) Tryz.underlying69 rfl rfl) rfl ?_
  have hf3 : Fr [] w w3 := HF0.out.trans hfx
  refine ⟨((hf3.setCell (.inr (by simp)) _).setCell (.inr (by simp)) _).setCell (.inr (by simp)) _, ?_⟩
  exact ⟨_, rfl, _, _, _, _, _, rfl⟩

set_option maxRecDepth 100000 in
set_option maxHeartbeats 2000000 in
theorem value_none (k : Int) (h1 : ¬ k = 1) (h2 : ¬ k = 2) (h3 : ¬ k = 3) (h4 : ¬ k = 4) (h5 : ¬ k = 5) (s : ByteArray) (n : Int) (u f : Nat) (x : Bool) (w : World) :
    Calls Tryz.prog 35 #[.agg #[.int .i64 k, .string s, .int .i64 n, .int .u64 u, .float .f64 f, .bool x]] w (Made w none) := by
  have b1 : (k == 1) = false := by simpa using h1
  have b2 : (k == 2) = false := by simpa using h2
  have b3 : (k == 3) = false := by simpa using h3
  have b4 : (k == 4) = false := by simpa using h4
  have b5 : (k == 5) = false := by simpa using h5
  go_enter Tryz.func35, Tryz.ntmps35
  go_wp2
  (try simp only [Exit.inBlock, Exit.then])
  refine bodyPost_ret (results_row_tmp rfl _ _ (w.heap.size + 1) 69 #[.int .u64 0, .slice none 0 0, .int .u8 0] (0, 0) _ rfl (heap_alloc2_new _ _ _) Tryz.underlying69 rfl rfl) rfl ?_
  exact ⟨((Fr.refl [] w).alloc _).alloc _, _, rfl, _, _, _, _, _, rfl⟩

/-- impl.value. -/
theorem value_any (hV : ValidSaid) {B : Nat} {ea : Addr} (d : VD) (hd : d.Ok) (hFV : d.kind = 4 → FloatValueSaid) (w : World) (hG : Gv B ea w) :
    Calls Tryz.prog 35 #[.agg d.cells] w (Made w d.made) := by
  obtain ⟨k, s, n, u, f, x⟩ := d
  obtain ⟨hs, hn0, hn1, hu⟩ := hd
  simp only [VD.cells, VD.made] at *
  by_cases h1 : k = 1
  · subst h1
    rw [if_pos rfl]
    cases hv : Lib.validD s.data.toList with
    | true => exact value_str s n u f x w hV hs hG hv
    | false => exact value_bad s n u f x w hV hs hG hv
  rw [if_neg h1]
  by_cases h2 : k = 2
  · subst h2; rw [if_pos rfl]; exact value_int s n u f x w hn0 hn1
  rw [if_neg h2]
  by_cases h3 : k = 3
  · subst h3; rw [if_pos rfl]; exact value_uint s n u f x w hu
  rw [if_neg h3]
  by_cases h4 : k = 4
  · subst h4
    rw [if_pos rfl]
    cases hv : fin64 f with
    | true => exact value_flt s n u f x w (hFV rfl) hv
    | false => exact value_inf s n u f x w (hFV rfl) hv
  rw [if_neg h4]
  by_cases h5 : k = 5
  · subst h5; rw [if_pos rfl]; exact value_bool s n u f x w
  rw [if_neg h5]
  exact value_none k h1 h2 h3 h4 h5 s n u f x w
end Go.Proofs.YtaaogjhaokaggaaGreatDoor
