import Derived.Test.YtaaogjhaokaggaaGreatDoorEncG
import Derived.Test.YtaaogjhaokaggaaGreatDoorValP
namespace Go.Proofs.YtaaogjhaokaggaaGreatDoor
open Go.RowKit

/-- A call of an encoder (impl.Put), as data. -/
structure PutD where
  op : Int
  key : ByteArray
  value : ByteArray
  v : VD
  n : Int
  more : Int
  flag : Bool
def PutD.cells (p : PutD) : Array Value := #[.int .i64 p.op, .string p.key, .string p.value, .int .i64 p.v.kind, .string p.v.s, .int .i64 p.v.n, .int .u64 p.v.u, .float .f64 p.v.f, .bool p.v.b, .int .i64 p.n, .int .i64 p.more, .bool p.flag]

/-- The two boxes ahead of impl.put's work. -/
def pw0 (op : Int) (key value : ByteArray) (k : Int) (s : ByteArray) (vn : Int) (u f : Nat) (x : Bool) (n m : Int) (z : Bool) (w : World) : World :=
  (w.alloc (.cells #[.int .i64 op, .string key, .string value, .int .i64 k, .string s, .int .i64 vn, .int .u64 u, .float .f64 f, .bool x, .int .i64 n, .int .i64 m, .bool z] 38)).alloc (.cells #[.int .u64 0, .slice none 0 0, .int .u8 0] 69)
theorem pw0_fr (op : Int) (key value : ByteArray) (k : Int) (s : ByteArray) (vn : Int) (u f : Nat) (x : Bool) (n m : Int) (z : Bool) (w : World) : Fr [] w (pw0 op key value k s vn u f x n m z w) := ((Fr.refl [] w).alloc _).alloc _
theorem pw0_heap (op : Int) (key value : ByteArray) (k : Int) (s : ByteArray) (vn : Int) (u f : Nat) (x : Bool) (n m : Int) (z : Bool) (w : World) : (pw0 op key value k s vn u f x n m z w).heap[w.heap.size + 1]? = some (.cells #[.int .u64 0, .slice none 0 0, .int .u8 0] 69 (0, 0)) := heap_alloc2_new _ _ _
theorem pw0_heap0 (op : Int) (key value : ByteArray) (k : Int) (s : ByteArray) (vn : Int) (u f : Nat) (x : Bool) (n m : Int) (z : Bool) (w : World) : (pw0 op key value k s vn u f x n m z w).heap[w.heap.size]? = some (.cells #[.int .i64 op, .string key, .string value, .int .i64 k, .string s, .int .i64 vn, .int .u64 u, .float .f64 f, .bool x, .int .i64 n, .int .i64 m, .bool z] 38 (0, 0)) := by
  unfold pw0
  rw [heap_alloc_old (h := by simp)]
  exact heap_alloc_new _ _
theorem pw0_size (op : Int) (key value : ByteArray) (k : Int) (s : ByteArray) (vn : Int) (u f : Nat) (x : Bool) (n m : Int) (z : Bool) (w : World) : (pw0 op key value k s vn u f x n m z w).heap.size = w.heap.size + 2 := by simp [pw0]

theorem Enc.fr {B : Nat} {ea : Addr} {w w' : World} {b : Nat} {st : St} (h : Enc B ea w b st) (f : Fr [] w w') : Enc B ea w' b st := by
  obtain ⟨vb, vk, ve, pi, hE⟩ := h; exact ⟨vb, vk, ve, pi, hE.fr f⟩
theorem Mid.pre {B : Nat} {ea : Addr} {b : Nat} {st : St} {w w1 w2 : World} (f : Fr [] w w1) (h : Mid B ea b st w1 w2) : Mid B ea b st w w2 := ⟨h.1, (FrE.of f).trans h.2⟩

set_option maxRecDepth 100000 in
set_option maxHeartbeats 2000000 in
theorem put_line {B : Nat} {ea : Addr} (b : Nat) (st : St) (key value : ByteArray) (k : Int) (s : ByteArray) (vn : Int) (u f : Nat) (x : Bool) (n m : Int) (z : Bool) (w : World) (hG : Gl B ea w) (h : Enc B ea w b st) (hV : ValidSaid) (hk : key.size ≤ 1000000) (hst : st.sec = 1 → st.start ≤ st.buf.length) (hlen : st.buf.length ≤ 100000000) :
    Calls Tryz.prog 45 #[.pointer (some ⟨b, 0, none⟩), .agg #[.int .i64 0, .string key, .string value, .int .i64 k, .string s, .int .i64 vn, .int .u64 u, .float .f64 f, .bool x, .int .i64 n, .int .i64 m, .bool z]] w fun e w' => e = .returned (.bool true) ∧ Mid B ea b (st.line key.data.toList) w w' := by
  have HF0 := Lib.hid (pw0_fr 0 key value k s vn u f x n m z w)
  have HG := Lib.hid (hG.fr HF0.out (by simp))
  have HE := Lib.hid (h.fr HF0.out)
  clear hG h
  have hS := startLine_any hV b st key (pw0 0 key value k s vn u f x n m z w) HG.out HE.out hk hst hlen
  obtain ⟨ST, hST⟩ : ∃ x : St, x = st.line key.data.toList := ⟨_, rfl⟩
  rw [← hST] at hS ⊢
  clear hST
  have HS := Lib.hid hS; clear hS
  go_enter Tryz.func45, Tryz.ntmps45
  go_wp2_with (go_at_call 79; refine HS.out.mono ?_; rintro e w3 ⟨rfl, hm⟩)
  go_ret
  exact ⟨rfl, hm.pre HF0.out⟩

set_option maxRecDepth 100000 in
set_option maxHeartbeats 2000000 in
theorem put_tag {B : Nat} {ea : Addr} (b : Nat) (st : St) (key value : ByteArray) (k : Int) (s : ByteArray) (vn : Int) (u f : Nat) (x : Bool) (n m : Int) (z : Bool) (w : World) (hG : Gl B ea w) (h : Enc B ea w b st) (hV : ValidSaid) (hk : key.size ≤ 1000000) (hv : value.size ≤ 1000000) (hst : st.start ≤ st.buf.length) (hlen : st.buf.length ≤ 100000000) (hkl : st.key.length ≤ 1000000) :
    Calls Tryz.prog 45 #[.pointer (some ⟨b, 0, none⟩), .agg #[.int .i64 1, .string key, .string value, .int .i64 k, .string s, .int .i64 vn, .int .u64 u, .float .f64 f, .bool x, .int .i64 n, .int .i64 m, .bool z]] w fun e w' => e = .returned (.bool true) ∧ Mid B ea b (st.tag key.data.toList value.data.toList) w w' := by
  have HF0 := Lib.hid (pw0_fr 1 key value k s vn u f x n m z w)
  have HG := Lib.hid (hG.fr HF0.out (by simp))
  have HE := Lib.hid (h.fr HF0.out)
  clear hG h
  have hS := addTag_any hV b st key value (pw0 1 key value k s vn u f x n m z w) HG.out HE.out hk hv hst hlen hkl
  obtain ⟨ST, hST⟩ : ∃ x : St, x = st.tag key.data.toList value.data.toList := ⟨_, rfl⟩
  rw [← hST] at hS ⊢
  clear hST
  have HS := Lib.hid hS; clear hS
  go_enter Tryz.func45, Tryz.ntmps45
  go_wp2_with (go_at_call 80; refine HS.out.mono ?_; rintro e w3 ⟨rfl, hm⟩)
  go_ret
  exact ⟨rfl, hm.pre HF0.out⟩

set_option maxRecDepth 100000 in
set_option maxHeartbeats 2000000 in
theorem put_end {B : Nat} {ea : Addr} (b : Nat) (st : St) (key value : ByteArray) (k : Int) (s : ByteArray) (vn : Int) (u f : Nat) (x : Bool) (n m : Int) (z : Bool) (w : World) (hG : Gl B ea w) (h : Enc B ea w b st) (hst : st.start ≤ st.buf.length) (hlen : st.buf.length ≤ 100000000) (hn0 : -9223372036854775808 ≤ n) (hn1 : n ≤ 9223372036854775807) (hm0 : -9223372036854775808 ≤ m) (hm1 : m ≤ 9223372036854775807) :
    Calls Tryz.prog 45 #[.pointer (some ⟨b, 0, none⟩), .agg #[.int .i64 3, .string key, .string value, .int .i64 k, .string s, .int .i64 vn, .int .u64 u, .float .f64 f, .bool x, .int .i64 n, .int .i64 m, .bool z]] w fun e w' => e = .returned (.bool true) ∧ Mid B ea b (st.endl (if z then none else some (n + m))) w w' := by
  have HF0 := Lib.hid (pw0_fr 3 key value k s vn u f x n m z w)
  have HG := Lib.hid (hG.fr HF0.out (by simp))
  have HE := Lib.hid (h.fr HF0.out)
  clear hG h
  have hS := doorEnd_any b st n m z (pw0 3 key value k s vn u f x n m z w) HG.out HE.out hst hlen hn0 hn1 hm0 hm1
  obtain ⟨ST, hST⟩ : ∃ x : St, x = st.endl (if z then none else some (n + m)) := ⟨_, rfl⟩
  rw [← hST] at hS ⊢
  clear hST
  have HS := Lib.hid hS; clear hS
  go_enter Tryz.func45, Tryz.ntmps45
  go_wp2_with (go_at_call 82; refine HS.out.mono ?_; rintro e w3 ⟨rfl, hm⟩)
  go_ret
  exact ⟨rfl, hm.pre HF0.out⟩

set_option maxRecDepth 100000 in
set_option maxHeartbeats 2000000 in
theorem put_clear {B : Nat} {ea : Addr} (b : Nat) (st : St) (key value : ByteArray) (k : Int) (s : ByteArray) (vn : Int) (u f : Nat) (x : Bool) (n m : Int) (z : Bool) (w : World) (hG : Gl B ea w) (h : Enc B ea w b st)  :
    Calls Tryz.prog 45 #[.pointer (some ⟨b, 0, none⟩), .agg #[.int .i64 4, .string key, .string value, .int .i64 k, .string s, .int .i64 vn, .int .u64 u, .float .f64 f, .bool x, .int .i64 n, .int .i64 m, .bool z]] w fun e w' => e = .returned (.bool true) ∧ Mid B ea b ({ st with err := 0 }) w w' := by
  have HF0 := Lib.hid (pw0_fr 4 key value k s vn u f x n m z w)
  have HG := Lib.hid (hG.fr HF0.out (by simp))
  have HE := Lib.hid (h.fr HF0.out)
  clear hG h
  have hS := clearErr_any b st (pw0 4 key value k s vn u f x n m z w) HE.out
  obtain ⟨ST, hST⟩ : ∃ x : St, x = { st with err := 0 } := ⟨_, rfl⟩
  rw [← hST] at hS ⊢
  clear hST
  have HS := Lib.hid hS; clear hS
  go_enter Tryz.func45, Tryz.ntmps45
  go_wp2_with (go_at_call 83; refine HS.out.mono ?_; rintro e w3 ⟨rfl, hm⟩)
  go_ret
  exact ⟨rfl, hm.pre HF0.out⟩

set_option maxRecDepth 100000 in
set_option maxHeartbeats 2000000 in
theorem put_lax {B : Nat} {ea : Addr} (b : Nat) (st : St) (key value : ByteArray) (k : Int) (s : ByteArray) (vn : Int) (u f : Nat) (x : Bool) (n m : Int) (z : Bool) (w : World) (hG : Gl B ea w) (h : Enc B ea w b st)  :
    Calls Tryz.prog 45 #[.pointer (some ⟨b, 0, none⟩), .agg #[.int .i64 7, .string key, .string value, .int .i64 k, .string s, .int .i64 vn, .int .u64 u, .float .f64 f, .bool x, .int .i64 n, .int .i64 m, .bool z]] w fun e w' => e = .returned (.bool true) ∧ Mid B ea b ({ st with lax := z }) w w' := by
  have HF0 := Lib.hid (pw0_fr 7 key value k s vn u f x n m z w)
  have HG := Lib.hid (hG.fr HF0.out (by simp))
  have HE := Lib.hid (h.fr HF0.out)
  clear hG h
  have hS := setLax_any b st z (pw0 7 key value k s vn u f x n m z w) HE.out
  obtain ⟨ST, hST⟩ : ∃ x : St, x = { st with lax := z } := ⟨_, rfl⟩
  rw [← hST] at hS ⊢
  clear hST
  have HS := Lib.hid hS; clear hS
  go_enter Tryz.func45, Tryz.ntmps45
  go_wp2_with (go_at_call 86; refine HS.out.mono ?_; rintro e w3 ⟨rfl, hm⟩)
  go_ret
  exact ⟨rfl, hm.pre HF0.out⟩

set_option maxRecDepth 100000 in
set_option maxHeartbeats 2000000 in
theorem put_field {B : Nat} {ea : Addr} (b : Nat) (st : St) (key value : ByteArray) (k : Int) (s : ByteArray) (vn : Int) (u f : Nat) (x : Bool) (n m : Int) (z : Bool) (w : World) (hG : Gl B ea w) (h : Enc B ea w b st) {F : Nat → List UInt8} {fin : Nat → Prop} (hV : ValidSaid) (hF : FloatSaid F fin) (hk : key.size ≤ 1000000) (hst : st.start ≤ st.buf.length) (hlen : st.buf.length ≤ 100000000)
    (y : Val) (hx : ∀ n, y = .flt n → fin n) (hxs : ∀ s, y = .str s → s.length ≤ 1000000)
    (hM : ∀ w, Gl B ea w → Calls Tryz.prog 35 #[.agg #[.int .i64 k, .string s, .int .i64 vn, .int .u64 u, .float .f64 f, .bool x]] w (Made w (some y))) :
    Calls Tryz.prog 45 #[.pointer (some ⟨b, 0, none⟩), .agg #[.int .i64 2, .string key, .string value, .int .i64 k, .string s, .int .i64 vn, .int .u64 u, .float .f64 f, .bool x, .int .i64 n, .int .i64 m, .bool z]] w fun e w' => e = .returned (.bool true) ∧ Mid B ea b (st.field F key.data.toList y) w w' := by
  have HF0 := Lib.hid (pw0_fr 2 key value k s vn u f x n m z w)
  have HZ := Lib.hid (pw0_heap 2 key value k s vn u f x n m z w)
  have HZ0 := Lib.hid (pw0_heap0 2 key value k s vn u f x n m z w)
  have HSZ := Lib.hid (pw0_size 2 key value k s vn u f x n m z w)
  have HG := Lib.hid (fun wx (f : Fr [] w wx) => hG.fr f (by simp))
  have HE := Lib.hid (fun wx (f : Fr [] w wx) => h.fr f)
  have hbl : ∀ wx u g, Fr [] w wx → wx.cell? ⟨b, 0, none⟩ = some u → w.heap.size ≤ g → u.ownBlock ≠ some g := by
    intro wx u g hfr hu hg he
    obtain ⟨vb, vk, ve, pi, hE⟩ := h
    obtain ⟨⟨z0, -⟩, -⟩ := (hE.fr hfr).row.all
    rw [z0] at hu
    cases hu
    have := hE.obuf.lt g he
    omega
  have HBL := Lib.hid hbl
  have hS := hM (pw0 2 key value k s vn u f x n m z w) (hG.fr HF0.out (by simp))
  have HS := Lib.hid hS; clear hS hM
  have HX := Lib.hid hx
  have HXS := Lib.hid hxs
  clear hG h hbl hx hxs
  go_enter Tryz.func45, Tryz.ntmps45
  go_wp2_with (first
    | (go_at_call 35; refine HS.out.mono ?_; rintro e w3 ⟨hfx, v, rfl, hlv, hlb⟩; obtain ⟨n', a', c', d', k', rfl⟩ := lv_shape0 hlv; have HLV := Lib.hid hlv; have HLB := Lib.hid hlb; clear hlv hlb; have HFX := Lib.hid (hfx.alloc (.cells #[.int .u64 n', .slice a' c' d', .int .u8 k'] 69)); have HB := Lib.hid (HFX.out.blk HZ.out (by simp)); have HB0 := Lib.hid (HFX.out.blk HZ0.out (by simp))
       have d0 := cell_of_row _ (w.heap.size + 1) 0 _ 69 _ HB.out; have d1 := cell_of_row _ (w.heap.size + 1) 1 _ 69 _ HB.out; have d2 := cell_of_row _ (w.heap.size + 1) 2 _ 69 _ HB.out; have f0 := frozen_of_row _ (w.heap.size + 1) 0 _ 69 HB.out; have f1 := frozen_of_row _ (w.heap.size + 1) 1 _ 69 HB.out; have f2 := frozen_of_row _ (w.heap.size + 1) 2 _ 69 HB.out
       have e0 := cell_of_row _ w.heap.size 0 _ 38 _ HB0.out; have e1 := cell_of_row _ w.heap.size 1 _ 38 _ HB0.out)
    | (go_at_call 81
       have HF4 := Lib.hid ((((HF0.out.trans HFX.out).setCell (p := ⟨w.heap.size + 1, 0, none⟩) (.inr (by simp)) (.int .u64 n')).setCell (p := ⟨w.heap.size + 1, 1, none⟩) (.inr (by simp)) (.slice a' c' d')).setCell (p := ⟨w.heap.size + 1, 2, none⟩) (.inr (by simp)) (.int .u8 k'))
       have hlv4 := LV.frS (put_fr (g := w.heap.size + 1) (.int .u64 n') (.slice a' c' d') (.int .u8 k')) (LV.frS ((Fr.refl [] w3).alloc (.cells #[.int .u64 n', .slice a' c' d', .int .u8 k'] 69)) HLV.out (by simp)) (fun g hg hm => by
         have := HLB.out g hg; have := HSZ.out; simp at hm; omega)
       refine (addField_any hV hF b st key _ y _ (HG.out _ HF4.out) (HE.out _ HF4.out) hk hst hlen HX.out HXS.out hlv4 (fun u g hu hg => HBL.out _ u g HF4.out hu (by have := HLB.out g hg; have := HSZ.out; omega))).mono ?_
       rintro e w5 ⟨rfl, hm⟩))
  go_ret
  exact ⟨rfl, hm.pre HF4.out⟩

set_option maxRecDepth 100000 in
set_option maxHeartbeats 2000000 in
theorem put_field_no {B : Nat} {ea : Addr} (b : Nat) (key value : ByteArray) (k : Int) (s : ByteArray) (vn : Int) (u f : Nat) (x : Bool) (n m : Int) (z : Bool) (w : World) (hG : Gl B ea w)
    (hM : ∀ w, Gl B ea w → Calls Tryz.prog 35 #[.agg #[.int .i64 k, .string s, .int .i64 vn, .int .u64 u, .float .f64 f, .bool x]] w (Made w none)) :
    Calls Tryz.prog 45 #[.pointer (some ⟨b, 0, none⟩), .agg #[.int .i64 2, .string key, .string value, .int .i64 k, .string s, .int .i64 vn, .int .u64 u, .float .f64 f, .bool x, .int .i64 n, .int .i64 m, .bool z]] w fun e w' => e = .returned (.bool false) ∧ Fr [] w w' := by
  have HF0 := Lib.hid (pw0_fr 2 key value k s vn u f x n m z w)
  have hS := hM (pw0 2 key value k s vn u f x n m z w) (hG.fr HF0.out (by simp))
  have HS := Lib.hid hS; clear hS hM hG
  go_enter Tryz.func45, Tryz.ntmps45
  go_wp2_with (go_at_call 35; refine HS.out.mono ?_; rintro e w3 ⟨hfx, v, rfl, n', a', c', d', k', rfl⟩)
  go_ret
  exact ⟨rfl, (HF0.out.trans hfx).alloc _⟩
end Go.Proofs.YtaaogjhaokaggaaGreatDoor
