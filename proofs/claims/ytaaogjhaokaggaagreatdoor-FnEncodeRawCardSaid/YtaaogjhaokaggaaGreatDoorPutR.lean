import Derived.Test.YtaaogjhaokaggaaGreatDoorSaidX
import Derived.Test.YtaaogjhaokaggaaGreatDoorQuoA
namespace Go.Proofs.YtaaogjhaokaggaaGreatDoor
open Go.RowKit

set_option maxRecDepth 100000 in
set_option maxHeartbeats 2000000 in
theorem rawLine_any (hV : ValidSaid) {B : Nat} {ea : Addr} (b : Nat) (st : St) (l : List UInt8) (v : Value) (w : World) (hG : Gl B ea w) (h : Enc B ea w b st) (hO : Own w 5 v l) (hs : l.length ≤ 1000000) (hst : st.sec = 1 → st.start ≤ st.buf.length) (hlen : st.buf.length ≤ 100000000) :
    Calls Tryz.prog 88 #[.pointer (some ⟨b, 0, none⟩), v] w fun e w' => e = .returned (.tuple #[]) ∧ Mid B ea b (st.line l) w w' := by
  have hcv := conv_own hO
  have hS := startLine_any hV b st ⟨l.toArray⟩ w hG h (by show l.toArray.size ≤ 1000000; simpa using hs) hst hlen
  simp only at hS
  obtain ⟨ST, hST⟩ : ∃ y : St, y = st.line l := ⟨_, rfl⟩
  rw [← hST] at hS ⊢
  have HS := Lib.hid hS
  clear hS hST hG h hO
  go_enter Tryz.func88, Tryz.ntmps88
  go_wp2_with (go_at_call 79; refine HS.out.mono ?_; rintro e w1 ⟨rfl, hm⟩)
  go_end0
  exact ⟨rfl, hm⟩

set_option maxRecDepth 100000 in
set_option maxHeartbeats 2000000 in
theorem rawTag_any (hV : ValidSaid) {B : Nat} {ea : Addr} (b : Nat) (st : St) (l q : List UInt8) (v u : Value) (w : World) (hG : Gl B ea w) (h : Enc B ea w b st) (hO : Own w 5 v l) (hQ : Own w 5 u q) (hs : l.length ≤ 1000000) (hq : q.length ≤ 1000000) (hst : st.start ≤ st.buf.length) (hlen : st.buf.length ≤ 100000000) (hkl : st.key.length ≤ 1000000) :
    Calls Tryz.prog 89 #[.pointer (some ⟨b, 0, none⟩), v, u] w fun e w' => e = .returned (.tuple #[]) ∧ Mid B ea b (st.tag l q) w w' := by
  have hcv := conv_own hO
  have hcq := conv_own hQ
  have hS := addTag_any hV b st ⟨l.toArray⟩ ⟨q.toArray⟩ w hG h (by show l.toArray.size ≤ 1000000; simpa using hs) (by show q.toArray.size ≤ 1000000; simpa using hq) hst hlen hkl
  simp only at hS
  obtain ⟨ST, hST⟩ : ∃ y : St, y = st.tag l q := ⟨_, rfl⟩
  rw [← hST] at hS ⊢
  have HS := Lib.hid hS
  clear hS hST hG h hO hQ
  go_enter Tryz.func89, Tryz.ntmps89
  go_wp2_with (go_at_call 80; refine HS.out.mono ?_; rintro e w1 ⟨rfl, hm⟩)
  go_end0
  exact ⟨rfl, hm⟩

set_option maxRecDepth 100000 in
set_option maxHeartbeats 2000000 in
theorem put_lineRaw {B : Nat} {ea : Addr} (b : Nat) (st : St) (key value : ByteArray) (k : Int) (s : ByteArray) (vn : Int) (u f : Nat) (x : Bool) (n m : Int) (z : Bool) (w : World) (hG : Gl B ea w) (h : Enc B ea w b st) (hV : ValidSaid) (hk : key.size ≤ 1000000) (hst : st.sec = 1 → st.start ≤ st.buf.length) (hlen : st.buf.length ≤ 100000000) :
    Calls Tryz.prog 45 #[.pointer (some ⟨b, 0, none⟩), .agg #[.int .i64 9, .string key, .string value, .int .i64 k, .string s, .int .i64 vn, .int .u64 u, .float .f64 f, .bool x, .int .i64 n, .int .i64 m, .bool z]] w fun e w' => e = .returned (.bool true) ∧ Mid B ea b (st.line key.data.toList) w w' := by
  have HF0 := Lib.hid (pw0_fr 9 key value k s vn u f x n m z w)
  obtain ⟨c, w2, hcv, ho2, hf2⟩ := conv_str key (by omega) (pw0 9 key value k s vn u f x n m z w)
  have HF2 := Lib.hid (HF0.out.trans hf2)
  have hS := rawLine_any hV b st key.data.toList _ w2 (hG.fr HF2.out (by simp)) (h.fr HF2.out) ho2 (by simpa using hk) hst hlen
  obtain ⟨ST, hST⟩ : ∃ y : St, y = st.line key.data.toList := ⟨_, rfl⟩
  rw [← hST] at hS ⊢
  have hps := pw0_size 9 key value k s vn u f x n m z w
  rw [hps] at hcv hS
  simp only [pw0] at hcv
  have HS := Lib.hid hS
  clear hS hST hG h ho2 hf2 hps
  go_enter Tryz.func45, Tryz.ntmps45
  go_wp2_with (go_at_call 88; refine HS.out.mono ?_; rintro e w3 ⟨rfl, hm⟩)
  go_ret
  exact ⟨rfl, hm.pre HF2.out⟩

set_option maxRecDepth 100000 in
set_option maxHeartbeats 2000000 in
theorem put_tagRaw {B : Nat} {ea : Addr} (b : Nat) (st : St) (key value : ByteArray) (k : Int) (s : ByteArray) (vn : Int) (u f : Nat) (x : Bool) (n m : Int) (z : Bool) (w : World) (hG : Gl B ea w) (h : Enc B ea w b st) (hV : ValidSaid) (hk : key.size ≤ 1000000) (hv : value.size ≤ 1000000) (hst : st.start ≤ st.buf.length) (hlen : st.buf.length ≤ 100000000) (hkl : st.key.length ≤ 1000000) :
    Calls Tryz.prog 45 #[.pointer (some ⟨b, 0, none⟩), .agg #[.int .i64 10, .string key, .string value, .int .i64 k, .string s, .int .i64 vn, .int .u64 u, .float .f64 f, .bool x, .int .i64 n, .int .i64 m, .bool z]] w fun e w' => e = .returned (.bool true) ∧ Mid B ea b (st.tag key.data.toList value.data.toList) w w' := by
  have HF0 := Lib.hid (pw0_fr 10 key value k s vn u f x n m z w)
  obtain ⟨c, w2, hcv, ho2, hf2⟩ := conv_str key (by omega) (pw0 10 key value k s vn u f x n m z w)
  obtain ⟨c3, w3, hcv3, ho3, hf3⟩ := conv_str value (by omega) w2
  have HF2 := Lib.hid (HF0.out.trans hf2)
  have HF3 := Lib.hid (HF2.out.trans hf3)
  have hS := rawTag_any hV b st key.data.toList value.data.toList _ _ w3 (hG.fr HF3.out (by simp)) (h.fr HF3.out) (ho2.fr hf3 (by simp)) ho3 (by simpa using hk) (by simpa using hv) hst hlen hkl
  obtain ⟨ST, hST⟩ : ∃ y : St, y = st.tag key.data.toList value.data.toList := ⟨_, rfl⟩
  rw [← hST] at hS ⊢
  have hps := pw0_size 10 key value k s vn u f x n m z w
  have hb0 := hf2.blk (pw0_heap0 10 key value k s vn u f x n m z w) (by simp)
  have e2 := cell_of_row w2 w.heap.size 2 _ 38 _ hb0
  rw [hps] at hcv hS
  simp only [pw0] at hcv
  have HS := Lib.hid hS
  clear hS hST hG h ho2 hf2 hps hb0 ho3 hf3
  go_enter Tryz.func45, Tryz.ntmps45
  go_wp2_with (go_at_call 89; refine HS.out.mono ?_; rintro e w4 ⟨rfl, hm⟩)
  go_ret
  exact ⟨rfl, hm.pre HF3.out⟩

set_option maxRecDepth 100000 in
set_option maxHeartbeats 2000000 in
theorem put_prec {B : Nat} {ea : Addr} (b : Nat) (st : St) (key value : ByteArray) (k : Int) (s : ByteArray) (vn : Int) (u f : Nat) (x : Bool) (n : Nat) (m : Int) (z : Bool) (w : World) (hn : n ≤ 3) (h : Enc B ea w b st) :
    Calls Tryz.prog 45 #[.pointer (some ⟨b, 0, none⟩), .agg #[.int .i64 6, .string key, .string value, .int .i64 k, .string s, .int .i64 vn, .int .u64 u, .float .f64 f, .bool x, .int .i64 n, .int .i64 m, .bool z]] w fun e w' => e = .returned (.bool true) ∧ Mid B ea b { st with mul := ticks n } w w' := by
  have HF0 := Lib.hid (pw0_fr 6 key value k s vn u f x n m z w)
  have hS := setPrec_any b st n hn (pw0 6 key value k s vn u f x n m z w) (h.fr HF0.out)
  obtain ⟨ST, hST⟩ : ∃ y : St, y = { st with mul := ticks n } := ⟨_, rfl⟩
  rw [← hST] at hS ⊢
  have HS := Lib.hid hS
  have h0 : (0 : Int) ≤ (n : Int) := by omega
  have h3 : (n : Int) ≤ 3 := by omega
  clear hS hST h
  go_enter Tryz.func45, Tryz.ntmps45
  go_wp2_with (go_at_call 85; refine HS.out.mono ?_; rintro e w3 ⟨rfl, hm⟩)
  go_ret
  exact ⟨rfl, hm.pre HF0.out⟩

set_option maxRecDepth 100000 in
set_option maxHeartbeats 2000000 in
theorem rawField_any (hV : ValidSaid) {F : Nat → List UInt8} {fin : Nat → Prop} (hF : FloatSaid F fin) {B : Nat} {ea : Addr} (b : Nat) (st : St) (l : List UInt8) (v val : Value) (y : Val) (w : World) (hG : Gl B ea w) (h : Enc B ea w b st) (hO : Own w 5 v l) (hs : l.length ≤ 1000000) (hst : st.start ≤ st.buf.length) (hlen : st.buf.length ≤ 100000000)
    (hx : ∀ n, y = .flt n → fin n) (hxs : ∀ s, y = .str s → s.length ≤ 1000000) (hLV : LV w val y) (hap : ∀ u g, w.cell? ⟨b, 0, none⟩ = some u → lvBlock val = some g → u.ownBlock ≠ some g) :
    Calls Tryz.prog 90 #[.pointer (some ⟨b, 0, none⟩), v, val] w fun e w' => e = .returned (.tuple #[]) ∧ Mid B ea b (st.field F l y) w w' := by
  obtain ⟨n', a', c', e', k', rfl⟩ := lv_shape0 hLV
  have hal : Fr [] w (w.alloc (.cells #[.int .u64 n', .slice a' c' e', .int .u8 k'] 69)) := (Fr.refl _ _).alloc _
  have hcv := conv_own (hO.fr hal (by simp))
  obtain ⟨vb, vk, ve, pi, hE⟩ := id h
  obtain ⟨⟨z0, -⟩, -⟩ := hE.row.all
  obtain ⟨⟨y0, -⟩, -⟩ := (hE.fr hal).row.all
  have hS := addField_any hV hF b st ⟨l.toArray⟩ _ y _ (hG.fr hal (by simp)) (h.fr hal) (by show l.toArray.size ≤ 1000000; simpa using hs) hst hlen hx hxs (LV.frS hal hLV (by simp)) (fun u g hu hg => hap u g (by rw [y0] at hu; rw [z0]; exact hu) hg)
  simp only at hS
  obtain ⟨ST, hST⟩ : ∃ q : St, q = st.field F l y := ⟨_, rfl⟩
  rw [← hST] at hS ⊢
  have HS := Lib.hid hS
  have HAL := Lib.hid hal
  clear hS hST hG h hO hx hxs hLV hap hal hE z0 y0
  go_enter Tryz.func90, Tryz.ntmps90
  go_wp2_with (go_at_call 81; refine HS.out.mono ?_; rintro e w1 ⟨rfl, hm⟩)
  go_end0
  exact ⟨rfl, hm.pre HAL.out⟩

set_option maxRecDepth 100000 in
set_option maxHeartbeats 2000000 in
theorem put_fieldRaw {B : Nat} {ea : Addr} (b : Nat) (st : St) (key value : ByteArray) (k : Int) (s : ByteArray) (vn : Int) (u f : Nat) (x : Bool) (n m : Int) (z : Bool) (w : World) (hG : Gl B ea w) (h : Enc B ea w b st) {F : Nat → List UInt8} {fin : Nat → Prop} (hV : ValidSaid) (hF : FloatSaid F fin) (hk : key.size ≤ 1000000) (hst : st.start ≤ st.buf.length) (hlen : st.buf.length ≤ 100000000)
    (y : Val) (hx : ∀ n, y = .flt n → fin n) (hxs : ∀ s, y = .str s → s.length ≤ 1000000)
    (hM : ∀ w, Gl B ea w → Calls Tryz.prog 35 #[.agg #[.int .i64 k, .string s, .int .i64 vn, .int .u64 u, .float .f64 f, .bool x]] w (Made w (some y))) :
    Calls Tryz.prog 45 #[.pointer (some ⟨b, 0, none⟩), .agg #[.int .i64 11, .string key, .string value, .int .i64 k, .string s, .int .i64 vn, .int .u64 u, .float .f64 f, .bool x, .int .i64 n, .int .i64 m, .bool z]] w fun e w' => e = .returned (.bool true) ∧ Mid B ea b (st.field F key.data.toList y) w w' := by
  have HF0 := Lib.hid (pw0_fr 11 key value k s vn u f x n m z w)
  have HZ := Lib.hid (pw0_heap 11 key value k s vn u f x n m z w)
  have HZ0 := Lib.hid (pw0_heap0 11 key value k s vn u f x n m z w)
  have HSZ := Lib.hid (pw0_size 11 key value k s vn u f x n m z w)
  have HG := Lib.hid (fun wx (f : Fr [] w wx) => hG.fr f (by simp))
  have HE := Lib.hid (fun wx (f : Fr [] w wx) => h.fr f)
  have hbl : ∀ wx u g, Fr [] w wx → wx.cell? ⟨b, 0, none⟩ = some u → w.heap.size ≤ g → u.ownBlock ≠ some g := by
    intro wx u g hfr hu hg he
    obtain ⟨vb, vk, ve, pi, hE⟩ := h
    obtain ⟨⟨z0, -⟩, -⟩ := (hE.fr hfr).row.all
    rw [z0] at hu
    cases hu
    have := hE.obuf.lt g he
    omega
  have HBL := Lib.hid hbl
  have hS := hM (pw0 11 key value k s vn u f x n m z w) (hG.fr HF0.out (by simp))
  have HS := Lib.hid hS; clear hS hM
  have HX := Lib.hid hx
  have HXS := Lib.hid hxs
  clear hG h hbl hx hxs
  go_enter Tryz.func45, Tryz.ntmps45
  go_upto_region 33 with (go_at_call 35; refine HS.out.mono ?_; rintro e w3 ⟨hfx, v, rfl, hlv, hlb⟩; obtain ⟨n', a', c', d', k', rfl⟩ := lv_shape0 hlv; have HLV := Lib.hid hlv; have HLB := Lib.hid hlb; clear hlv hlb; have HFX := Lib.hid (hfx.alloc (.cells #[.int .u64 n', .slice a' c' d', .int .u8 k'] 69)); have HB := Lib.hid (HFX.out.blk HZ.out (by simp)); have HB0 := Lib.hid (HFX.out.blk HZ0.out (by simp)); have d0 := cell_of_row _ (w.heap.size + 1) 0 _ 69 _ HB.out; have d1 := cell_of_row _ (w.heap.size + 1) 1 _ 69 _ HB.out; have d2 := cell_of_row _ (w.heap.size + 1) 2 _ 69 _ HB.out; have f0 := frozen_of_row _ (w.heap.size + 1) 0 _ 69 HB.out; have f1 := frozen_of_row _ (w.heap.size + 1) 1 _ 69 HB.out; have f2 := frozen_of_row _ (w.heap.size + 1) 2 _ 69 HB.out; have e0 := cell_of_row _ w.heap.size 0 _ 38 _ HB0.out; have e1 := cell_of_row _ w.heap.size 1 _ 38 _ HB0.out)
  have HF4 := Lib.hid ((((HF0.out.trans HFX.out).setCell (p := ⟨w.heap.size + 1, 0, none⟩) (.inr (by simp)) (.int .u64 n')).setCell (p := ⟨w.heap.size + 1, 1, none⟩) (.inr (by simp)) (.slice a' c' d')).setCell (p := ⟨w.heap.size + 1, 2, none⟩) (.inr (by simp)) (.int .u8 k'))
  have hlv4 := LV.frS (put_fr (g := w.heap.size + 1) (.int .u64 n') (.slice a' c' d') (.int .u8 k')) (LV.frS ((Fr.refl [] w3).alloc (.cells #[.int .u64 n', .slice a' c' d', .int .u8 k'] 69)) HLV.out (by simp)) (fun g hg hm => by
    have := HLB.out g hg; have := HSZ.out; simp at hm; omega)
  have hrow := heap_setCell_same _ _ 2 _ 69 (.int .u8 k') (heap_setCell_same _ _ 1 _ 69 (.slice a' c' d') (heap_setCell_same _ _ 0 _ 69 (.int .u64 n') HB.out))
  have hrow0 : ((((w3.alloc (.cells #[.int .u64 n', .slice a' c' d', .int .u8 k'] 69)).setCell ⟨w.heap.size + 1, 0, none⟩ (.int .u64 n')).setCell ⟨w.heap.size + 1, 1, none⟩ (.slice a' c' d')).setCell ⟨w.heap.size + 1, 2, none⟩ (.int .u8 k')).heap[w.heap.size]? = some (.cells #[.int .i64 11, .string key, .string value, .int .i64 k, .string s, .int .i64 vn, .int .u64 u, .float .f64 f, .bool x, .int .i64 n, .int .i64 m, .bool z] 38 (0, 0)) := by
    rw [heap_setCell_other _ _ _ _ (by simp), heap_setCell_other _ _ _ _ (by simp), heap_setCell_other _ _ _ _ (by simp)]
    exact HB0.out
  obtain ⟨w4, hw4⟩ : ∃ q, q = ((((w3.alloc (.cells #[.int .u64 n', .slice a' c' d', .int .u8 k'] 69)).setCell ⟨w.heap.size + 1, 0, none⟩ (.int .u64 n')).setCell ⟨w.heap.size + 1, 1, none⟩ (.slice a' c' d')).setCell ⟨w.heap.size + 1, 2, none⟩ (.int .u8 k')) := ⟨_, rfl⟩
  rw [← hw4] at HF4 hlv4 hrow hrow0 ⊢
  have k1 := cell_of_row w4 w.heap.size 1 _ 38 _ hrow0
  obtain ⟨cc, w5, hcv, ho5, hf5⟩ := conv_str key (by omega) w4
  have hrow5 := hf5.blk hrow (by simp)
  have r0 : w5.cell? ⟨w.heap.size + 1, 0, none⟩ = some (.int .u64 n') := cell_of_row w5 (w.heap.size + 1) 0 _ 69 _ hrow5
  have r1 : w5.cell? ⟨w.heap.size + 1, 1, none⟩ = some (.slice a' c' d') := cell_of_row w5 (w.heap.size + 1) 1 _ 69 _ hrow5
  have r2 : w5.cell? ⟨w.heap.size + 1, 2, none⟩ = some (.int .u8 k') := cell_of_row w5 (w.heap.size + 1) 2 _ 69 _ hrow5
  have HF5 := Lib.hid (HF4.out.trans hf5)
  have hS := rawField_any hV hF b st key.data.toList _ _ y w5 (HG.out _ HF5.out) (HE.out _ HF5.out) ho5 (by simpa using hk) hst hlen HX.out HXS.out (LV.frS hf5 hlv4 (by simp)) (fun u g hu hg => HBL.out _ u g HF5.out hu (by have := HLB.out g hg; have := HSZ.out; omega))
  have HS5 := Lib.hid hS
  clear hS hlv4 hrow hrow0 hrow5 hw4 ho5 hf5 d0 d1 d2 f0 f1 f2 e0 e1
  go_wp2_with (go_at_call 90; refine HS5.out.mono ?_; rintro e w6 ⟨rfl, hm⟩)
  go_ret
  exact ⟨rfl, hm.pre HF5.out⟩

end Go.Proofs.YtaaogjhaokaggaaGreatDoor
