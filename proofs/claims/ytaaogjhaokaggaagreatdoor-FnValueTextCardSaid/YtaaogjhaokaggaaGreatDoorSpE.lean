import Derived.Test.YtaaogjhaokaggaaGreatDoorSpD
import Derived.Test.YtaaogjhaokaggaaGreatDoorVal2
import Derived.Recover
import Derived.Defers
import Derived.Deep.RegionLaw
import Derived.WideLaws
namespace Go.Proofs.YtaaogjhaokaggaaGreatDoor
open Go.RowKit

theorem recover_idle2 (a b : Addr) (w : World) :
    CallsD Tryz.prog 37 #[.pointer (some a), .pointer (some b)] .returning w fun e u' w' => e = .returned (.tuple #[]) ∧ u' = .returning ∧ w' = w := by
  refine callsD_of_wpS Tryz.func37 rfl fun c₀ cs hu => ?_
  apply wpS_seq
  apply wpS_region
  simp [wpOpsS, go_sem, recoverD, hu, Tryz.ntmps37, Exit.thenS]
  refine wpS_cond (t := false) (by simp [Act.eval, Array.replicate]) ?_
  simp only [Bool.false_eq_true, if_false]
  refine wpS_of_wp (wp_skip ?_)
  cases c₀
  simp_all [bodyPostS, results, Tryz.results37]

theorem lv_lt {w : World} {v : Value} {x : Val} (h : LV w v x) : ∀ g, lvBlock v = some g → g < w.heap.size := by
  intro g hg
  cases x with
  | str s =>
    obtain ⟨b, rfl, ho⟩ := h
    exact ho.lt g (by simpa [lvBlock] using hg)
  | int _ => obtain ⟨rfl, _⟩ := h; simp [lvBlock, Value.ownBlock] at hg
  | uint _ => obtain ⟨rfl, _⟩ := h; simp [lvBlock, Value.ownBlock] at hg
  | flt _ => cases h; simp [lvBlock, Value.ownBlock] at hg
  | bool _ => cases h; simp [lvBlock, Value.ownBlock] at hg
set_option maxRecDepth 100000 in
set_option maxHeartbeats 4000000 in
theorem implText_any (hV : ValidSaid) {ea : Addr} {B0 : Nat} (d : VD) (hd : d.Ok) (x : Val) (hx : d.made = some x) (hfin : ∀ n, x = .flt n → finOk n) (hxs : ∀ s, x = .str s → s.length ≤ 1000000) (t : ByteArray) (ht : t.size ≤ 100000000) (w : World) (hG : Gv B0 ea w) :
    Calls Tryz.prog 18 #[.string t, .agg d.cells] w fun e w' => e = .returned (.tuple #[.string ⟨(t.data.toList ++ valText fTx x).toArray⟩, .bool true]) ∧ Fr [] w w' := by
  have hG0 := hG.base
  have hval := fun w (hG : Gv B0 ea w) => value_any hV d hd (fun _ => floatValue_any) w hG
  rw [hx] at hval
  have HVAL := Lib.hid hval
  have HX := Lib.hid hfin
  have HXS := Lib.hid hxs
  clear hval hfin hxs hx hd
  have hmf : ∀ (fn : Fn) (first cap : Array Value) (w : World), (Instr.makeFunc fn first cap).run Tryz.prog w = .ok (.func fn first cap) w := fun _ _ _ _ => rfl
  have hsf : ∀ (a : Addr) (k : FloatKind) (b : Nat) (m : Mode) (w : World), (store a (.float k b) m).run Tryz.prog w = stored Tryz.prog w a (.float k b) m := fun a k b m w => run_store Tryz.prog w a _ m rfl
  obtain ⟨k, s, n, u, f, xx⟩ := d
  simp only [VD.cells] at *
  -- the world behind the boxes
  have hw3 : ∃ w3, w3 = ((w.alloc (.cells #[.int .i64 k, .string s, .int .i64 n, .int .u64 u, .float .f64 f, .bool xx] 25)).alloc (.cells #[.string ⟨#[]⟩] 9)).alloc (.cells #[.bool false] 4) := ⟨_, rfl⟩
  obtain ⟨w3, hw3⟩ := hw3
  have hf3 : Fr [] w w3 := by rw [hw3]; exact (((Fr.refl [] w).alloc _).alloc _).alloc _
  have hs3 : w3.heap.size = w.heap.size + 3 := by rw [hw3]; simp
  have hb0 : w3.heap[w.heap.size]? = some (.cells #[.int .i64 k, .string s, .int .i64 n, .int .u64 u, .float .f64 f, .bool xx] 25 (0, 0)) := by
    rw [hw3]
    exact (((Fr.refl [] _).alloc _).alloc _).blk (heap_alloc_new w _) List.not_mem_nil
  have hb1 : w3.heap[w.heap.size + 1]? = some (.cells #[.string ⟨#[]⟩] 9 (0, 0)) := by
    rw [hw3]
    have := ((Fr.refl [] _).alloc (.cells #[.bool false] 4)).blk (heap_alloc_new (w.alloc (.cells #[.int .i64 k, .string s, .int .i64 n, .int .u64 u, .float .f64 f, .bool xx] 25)) (.cells #[.string ⟨#[]⟩] 9)) List.not_mem_nil
    simpa using this
  have hb2 : w3.heap[w.heap.size + 2]? = some (.cells #[.bool false] 4 (0, 0)) := by
    rw [hw3]
    have := heap_alloc_new ((w.alloc (.cells #[.int .i64 k, .string s, .int .i64 n, .int .u64 u, .float .f64 f, .bool xx] 25)).alloc (.cells #[.string ⟨#[]⟩] 9)) (.cells #[.bool false] 4)
    simpa using this
  have HB0 := Lib.hid hb0
  have HB1 := Lib.hid hb1
  have HB2 := Lib.hid hb2
  have HF3 := Lib.hid hf3
  have HG3 := Lib.hid (hG.fr hf3 (fun _ h => by cases h))
  have HGB := Lib.hid (hG0.fr hf3 (fun _ h => by cases h))
  have HS3 := Lib.hid hs3
  have HW3 := Lib.hid hw3
  clear hb0 hb1 hb2 hf3 hs3 hw3 hG hG0
  go_enter_defers Tryz.func18, Tryz.ntmps18
  go_upto_region 2 with fail
  rw [← HW3.out]
  have d0 : w3.cell? ⟨w.heap.size, 0, none⟩ = _ := cell_of_row w3 w.heap.size 0 _ 25 _ HB0.out
  have d1 : w3.cell? ⟨w.heap.size, 1, none⟩ = _ := cell_of_row w3 w.heap.size 1 _ 25 _ HB0.out
  have d2 : w3.cell? ⟨w.heap.size, 2, none⟩ = _ := cell_of_row w3 w.heap.size 2 _ 25 _ HB0.out
  have d3 : w3.cell? ⟨w.heap.size, 3, none⟩ = _ := cell_of_row w3 w.heap.size 3 _ 25 _ HB0.out
  have d4 : w3.cell? ⟨w.heap.size, 4, none⟩ = _ := cell_of_row w3 w.heap.size 4 _ 25 _ HB0.out
  have d5 : w3.cell? ⟨w.heap.size, 5, none⟩ = _ := cell_of_row w3 w.heap.size 5 _ 25 _ HB0.out
  go_upto_region 5 with (go_at_call 35; refine (HVAL.out _ HG3.out).mono ?_; rintro e w4 ⟨hf4, v, rfl, hlv, hlb⟩; obtain ⟨n', a', c', e', k', rfl⟩ := lv_shape0 hlv; have HF4 := Lib.hid hf4; have HLV : Hid (LV w4 (.agg #[.int .u64 n', .slice a' c' e', .int .u8 k']) x) := Lib.hid hlv; have HLB := Lib.hid hlb; clear hf4 hlv hlb)
  obtain ⟨w5, hw5⟩ : ∃ x, x = w4.alloc (.cells #[.int .u64 n', .slice a' c' e', .int .u8 k'] 69) := ⟨_, rfl⟩
  rw [← hw5]
  have hf5 : Fr [] w4 w5 := by rw [hw5]; exact (Fr.refl [] w4).alloc _
  have hr5 : w5.heap[w4.heap.size]? = some (.cells #[.int .u64 n', .slice a' c' e', .int .u8 k'] 69 (0, 0)) := by rw [hw5]; exact heap_alloc_new _ _
  have hs5 : w5.heap.size = w4.heap.size + 1 := by rw [hw5]; simp
  have c0 : w5.cell? ⟨w4.heap.size, 0, none⟩ = _ := cell_of_row w5 w4.heap.size 0 _ 69 _ hr5
  have c1 : w5.cell? ⟨w4.heap.size, 1, none⟩ = _ := cell_of_row w5 w4.heap.size 1 _ 69 _ hr5
  have c2 : w5.cell? ⟨w4.heap.size, 2, none⟩ = _ := cell_of_row w5 w4.heap.size 2 _ 69 _ hr5
  obtain ⟨cc, w6, hcv, ho6, hf6⟩ := conv_str t (by omega) w5
  have HF6 := Lib.hid ((HF3.out.trans HF4.out).trans (hf5.trans hf6))
  have HF36 := Lib.hid (HF4.out.trans (hf5.trans hf6))
  have hlv6 : LV w6 (.agg #[.int .u64 n', .slice a' c' e', .int .u8 k']) x := LV.frS (hf5.trans hf6) HLV.out (fun _ _ => List.not_mem_nil)
  have HLV6 := Lib.hid hlv6
  have HO6 := Lib.hid ho6
  have hne : ∀ g, lvBlock (.agg #[.int .u64 n', .slice a' c' e', .int .u8 k']) = some g → (Value.slice (some ⟨w5.heap.size, 0, none⟩) t.size cc).ownBlock ≠ some g := by
    intro g hg he
    have hlt := lv_lt HLV.out g hg
    simp [Value.ownBlock] at he
    omega
  have happ := appBytes_any floatSaid (.agg #[.int .u64 n', .slice a' c' e', .int .u8 k']) x HX.out HXS.out (.slice (some ⟨w5.heap.size, 0, none⟩) t.size cc) t.data.toList w6 (HGB.out.fr HF36.out (fun _ h => by cases h)) hlv6 ho6 (by simp; omega) (fun g hg => by simp [Value.ownBlock] at hg; have := HF4.out.size; have := HF3.out.size; omega) hne
  have HAPP := Lib.hid happ
  have HS5 := Lib.hid (show w.heap.size + 3 < w5.heap.size by have := HF4.out.size; have := HS3.out; omega)
  clear happ hne hlv6 ho6 hf6 hf5 hr5 hs5 hw5 d0 d1 d2 d3 d4 d5
  go_wp2_with (go_at_call 38; refine HAPP.out.mono ?_; rintro e w7 ⟨v7, rfl, ho7, hs7⟩; have hcv7 := conv_own ho7; have HS7 := Lib.hid hs7; have HQ1 := Lib.hid (hs7.1.blk (HF36.out.blk HB1.out List.not_mem_nil) (fun hm => by simp [Value.ownBlock] at hm; have := HS5.out; omega)); have HQ2 := Lib.hid (hs7.1.blk (HF36.out.blk HB2.out List.not_mem_nil) (fun hm => by simp [Value.ownBlock] at hm; have := HS5.out; omega)); have q1 := cell_of_row w7 (w.heap.size + 1) 0 _ 9 _ HQ1.out; have q2 := cell_of_row w7 (w.heap.size + 1 + 1) 0 _ 4 _ HQ2.out; have f1 := frozen_of_row w7 (w.heap.size + 1) 0 _ 9 HQ1.out; have f2 := frozen_of_row w7 (w.heap.size + 1 + 1) 0 _ 4 HQ2.out; clear ho7 hs7)
  refine leaves_cons (f := 37) (args := #[.pointer (some ⟨w.heap.size + 1, 0, none⟩), .pointer (some ⟨w.heap.size + 1 + 1, 0, none⟩)]) (by simp) (by simp [go_sem]) ?_
  refine (recover_idle2 _ _ _).mono ?_
  rintro e u' w'' ⟨rfl, rfl, rfl⟩
  simp [Leaves, settle, results, Tryz.results18, go_sem, q1, q2]
  exact (((HF6.out.step HS7.out.1 (fun t ht => .inr (by simp [Value.ownBlock] at ht; have := HS5.out; omega))).setCell (.inr (by simp)) _).setCell (.inr (by simp; omega)) _)
end Go.Proofs.YtaaogjhaokaggaaGreatDoor
