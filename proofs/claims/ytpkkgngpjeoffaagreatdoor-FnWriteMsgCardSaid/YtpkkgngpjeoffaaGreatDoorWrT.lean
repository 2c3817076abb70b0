/- PROVED HERE: impl.Write (func 10) of the plain values that laws.FnWriteMsg asks: its text, and that all went well. CONDITIONS: those ahead of each theorem. -/
import Derived.Test.YtpkkgngpjeoffaaGreatDoorMsU
import Derived.Test.YtpkkgngpjeoffaaGreatDoorOptT
namespace Go.Proofs.YtpkkgngpjeoffaaGreatDoor
open Go.RowKit

abbrev plC (k : Int) (s : ByteArray) (n : Int) (f : Nat) (b : Bool) : Array Value := #[.int .i64 k, .string s, .int .i64 n, .int .u64 0, .float .f64 f, .bool b, .int .i64 0]
set_option maxRecDepth 100000 in
set_option maxHeartbeats 4000000 in
theorem wr_str {ea : Addr} (s : ByteArray) (hs : s.size ≤ 1000000) (w : World) (hG : Gv w.heap.size ea w) :
    Calls Tryz.prog 10 #[plV 1 s 0 0 false, .slice none 0 0] w fun e w' => e = .returned (.tuple #[.string ⟨(36 :: (Lib.itoa (s.data.toList.length : Int) ++ [13, 10] ++ s.data.toList ++ [13, 10]) : List UInt8).toArray⟩, .int .i64 0]) ∧ Fr [] w w' := by
  have hmf : ∀ (fn : Fn) (first cap : Array Value) (w : World), (Instr.makeFunc fn first cap).run Tryz.prog w = .ok (.func fn first cap) w := fun _ _ _ _ => rfl
  obtain ⟨A0, hA0⟩ : ∃ A0, A0 = w.alloc (.cells (plC 1 s 0 0 false) 32) := ⟨_, rfl⟩
  obtain ⟨A, hA⟩ : ∃ A, A = (A0.alloc (.cells #[.string { data := #[] }] 9)).alloc (.cells #[.int .i64 0] 3) := ⟨_, rfl⟩
  have hfA0 : Fr [] w A0 := by rw [hA0]; exact (Fr.refl [] w).alloc _
  have hfA1 : Fr [] A0 A := by rw [hA]; exact ((Fr.refl [] A0).alloc _).alloc _
  have hsA0 : A0.heap.size = w.heap.size + 1 := by rw [hA0]; simp
  have hsA : A.heap.size = w.heap.size + 3 := by rw [hA]; simp; omega
  have hr2 : A0.heap[w.heap.size]? = some (.cells (plC 1 s 0 0 false) 32 (0, 0)) := by rw [hA0]; exact heap_alloc_new w _
  have hr4 : A.heap[A0.heap.size]? = some (.cells #[.string { data := #[] }] 9 (0, 0)) := by
    rw [hA]; exact ((Fr.refl [] _).alloc _).blk (heap_alloc_new A0 _) List.not_mem_nil
  have hr5 : A.heap[A0.heap.size + 1]? = some (.cells #[.int .i64 0] 3 (0, 0)) := by
    rw [hA]
    have := heap_alloc_new (A0.alloc (.cells #[.string { data := #[] }] 9)) (.cells #[.int .i64 0] 3)
    rw [show (A0.alloc (.cells #[.string { data := #[] }] 9)).heap.size = A0.heap.size + 1 from by simp] at this
    exact this
  obtain ⟨w1, hw1⟩ : ∃ x, x = A.alloc (.cells #[.slice none 0 0, .int .i64 0, .int .i8 0] 46) := ⟨_, rfl⟩
  have hf1 : Fr [] A w1 := by rw [hw1]; exact (Fr.refl [] A).alloc _
  have hb1 : w1.heap[A.heap.size]? = some (.cells #[.slice none 0 0, .int .i64 0, .int .i8 0] 46 (0, 0)) := by rw [hw1]; exact heap_alloc_new A _
  have HGA : Hid (Gv A.heap.size ea A) := Lib.hid (hG.fr (hfA0.trans hfA1) (fun _ h => by cases h)).base
  have HA := Lib.hid hA
  have HA0 := Lib.hid hA0
  have HFA := Lib.hid (hfA0.trans hfA1)
  have HSA := Lib.hid hsA
  have HSA0 := Lib.hid hsA0
  have HR4 := Lib.hid hr4
  have HR5 := Lib.hid hr5
  have HW1 := Lib.hid hw1
  have HF1 := Lib.hid hf1
  have HB1 := Lib.hid hb1
  obtain ⟨x0, x1, x2, x3, x4, x5, x6⟩ := row_cells7 (hf1.blk (hfA1.blk hr2 List.not_mem_nil) List.not_mem_nil)
  have HANY := Lib.hid (fun W => any_str s (.slice none 0 0) W)
  clear hA0 hA hfA0 hfA1 hsA0 hsA hr2 hr4 hr5 hw1 hf1 hb1 hG
  go_enter_defers Tryz.func10, Tryz.ntmps10
  go_upto_region 3 with fail
  rw [← HA0.out, ← HSA0.out, ← HA.out, ← HW1.out]
  obtain ⟨H, hH⟩ : ∃ H, H = A0.heap.size := ⟨_, rfl⟩
  obtain ⟨b, hb⟩ : ∃ b, b = A.heap.size := ⟨_, rfl⟩
  have hb2 : A0.heap.size + 1 + 1 = b := by rw [hb, HSA.out, HSA0.out]
  rw [hb2, ← hH]
  have HR4 : Hid (A.heap[H]? = some (.cells #[.string { data := #[] }] 9 (0, 0))) := Lib.hid (by rw [hH]; exact HR4.out)
  have HR5 : Hid (A.heap[H + 1]? = some (.cells #[.int .i64 0] 3 (0, 0))) := Lib.hid (by rw [hH]; exact HR5.out)
  have HB1 : Hid (w1.heap[b]? = some (.cells #[.slice none 0 0, .int .i64 0, .int .i8 0] 46 (0, 0))) := Lib.hid (by rw [hb]; exact HB1.out)
  have HAB := Lib.hid hb
  have HHH : Hid (w.heap.size ≤ H) := Lib.hid (by rw [hH, HSA0.out]; exact Nat.le_succ _)
  clear hb2 hb hH
  go_upto_region 4 with (first
    | (go_at_call 25; refine (HANY.out _).mono ?_; rintro e w2 ⟨v, rfl, rfl, hf2⟩; have HF2 := Lib.hid hf2; clear hf2)
    | (go_at_call 16; refine (newOpts_any _).mono ?_; rintro e w3 ⟨o, bp, rfl, hf3, ho3, hp3, hzo, hzb, hne⟩; have HF13 := Lib.hid (HF2.out.trans hf3); have HFA3 := Lib.hid (HF1.out.trans HF13.out); have HM3 := mach_new HB1.out HF13.out ho3 hp3; have HB3 := mblk_new (B := A.heap.size) (bp := bp) (b := b) (Nat.le_trans (HF1.out.trans HF2.out).size hzb) (Nat.le_of_eq HAB.out.symm); have HG3 := HGA.out.fr HFA3.out (fun _ h => by cases h); have HCALL := Lib.hid (msh_str (ea := ea) s hs A o bp b w3 HFA3.out HG3 HM3 HB3); clear HM3 HG3 HB3 hf3 ho3 hp3 hzo hzb hne)
    | (go_at_call 24; refine HCALL.out.mono ?_; rintro e wy ⟨rfl, hq⟩; have HOUT := Lib.hid hq; clear hq))
  obtain ⟨bv4, hb4⟩ := HOUT.out.2
  have HSTR := Lib.hid (bufString_any hb4)
  clear hb4
  go_wp2_with (first
    | (go_at_call 17; refine HSTR.out.mono ?_; rintro e w5 ⟨rfl, hf5⟩; have HF5 := Lib.hid hf5; clear hf5)
    | (go_at_call 18; refine (stateOf_nil w5).mono ?_; rintro e w6 ⟨rfl, rfl⟩; have r4 := HF5.out.blk (HOUT.out.1.blk HR4.out List.not_mem_nil) List.not_mem_nil; have r5 := HF5.out.blk (HOUT.out.1.blk HR5.out List.not_mem_nil) List.not_mem_nil; have f4 := frozen_of_row w6 H 0 _ 9 r4; have f5 := frozen_of_row w6 (H + 1) 0 _ 3 r5; have d4 := cell_of_row w6 H 0 _ 9 _ r4; have d5 := cell_of_row w6 (H + 1) 0 _ 3 _ r5; clear r4 r5))
  refine leaves_cons (f := 23) (args := #[.pointer (some ⟨H, 0, none⟩), .pointer (some ⟨H + 1, 0, none⟩)]) (by simp) (by simp [go_sem]) ?_
  refine (recover_idle23 _ _ _).mono ?_
  rintro e u' w'' ⟨rfl, rfl, rfl⟩
  have hHH := HHH.out
  simp [Leaves, settle, results, Tryz.results10, go_sem, d4, d5]
  exact ((((HFA.out.trans HOUT.out.1).trans HF5.out).setCell (.inr hHH) _).setCell (.inr (Nat.le_succ_of_le hHH)) _)
set_option maxRecDepth 100000 in
set_option maxHeartbeats 4000000 in
theorem wr_bytes {ea : Addr} (s : ByteArray) (hs : s.size ≤ 1000000) (w : World) (hG : Gv w.heap.size ea w) :
    Calls Tryz.prog 10 #[plV 2 s 0 0 false, .slice none 0 0] w fun e w' => e = .returned (.tuple #[.string ⟨(36 :: (Lib.itoa (s.data.toList.length : Int) ++ [13, 10] ++ s.data.toList ++ [13, 10]) : List UInt8).toArray⟩, .int .i64 0]) ∧ Fr [] w w' := by
  have hmf : ∀ (fn : Fn) (first cap : Array Value) (w : World), (Instr.makeFunc fn first cap).run Tryz.prog w = .ok (.func fn first cap) w := fun _ _ _ _ => rfl
  obtain ⟨A0, hA0⟩ : ∃ A0, A0 = w.alloc (.cells (plC 2 s 0 0 false) 32) := ⟨_, rfl⟩
  obtain ⟨A, hA⟩ : ∃ A, A = (A0.alloc (.cells #[.string { data := #[] }] 9)).alloc (.cells #[.int .i64 0] 3) := ⟨_, rfl⟩
  have hfA0 : Fr [] w A0 := by rw [hA0]; exact (Fr.refl [] w).alloc _
  have hfA1 : Fr [] A0 A := by rw [hA]; exact ((Fr.refl [] A0).alloc _).alloc _
  have hsA0 : A0.heap.size = w.heap.size + 1 := by rw [hA0]; simp
  have hsA : A.heap.size = w.heap.size + 3 := by rw [hA]; simp; omega
  have hr2 : A0.heap[w.heap.size]? = some (.cells (plC 2 s 0 0 false) 32 (0, 0)) := by rw [hA0]; exact heap_alloc_new w _
  have hr4 : A.heap[A0.heap.size]? = some (.cells #[.string { data := #[] }] 9 (0, 0)) := by
    rw [hA]; exact ((Fr.refl [] _).alloc _).blk (heap_alloc_new A0 _) List.not_mem_nil
  have hr5 : A.heap[A0.heap.size + 1]? = some (.cells #[.int .i64 0] 3 (0, 0)) := by
    rw [hA]
    have := heap_alloc_new (A0.alloc (.cells #[.string { data := #[] }] 9)) (.cells #[.int .i64 0] 3)
    rw [show (A0.alloc (.cells #[.string { data := #[] }] 9)).heap.size = A0.heap.size + 1 from by simp] at this
    exact this
  obtain ⟨w1, hw1⟩ : ∃ x, x = A.alloc (.cells #[.slice none 0 0, .int .i64 0, .int .i8 0] 46) := ⟨_, rfl⟩
  have hf1 : Fr [] A w1 := by rw [hw1]; exact (Fr.refl [] A).alloc _
  have hb1 : w1.heap[A.heap.size]? = some (.cells #[.slice none 0 0, .int .i64 0, .int .i8 0] 46 (0, 0)) := by rw [hw1]; exact heap_alloc_new A _
  have HGA : Hid (Gv A.heap.size ea A) := Lib.hid (hG.fr (hfA0.trans hfA1) (fun _ h => by cases h)).base
  have HA := Lib.hid hA
  have HA0 := Lib.hid hA0
  have HFA := Lib.hid (hfA0.trans hfA1)
  have HSA := Lib.hid hsA
  have HSA0 := Lib.hid hsA0
  have HR4 := Lib.hid hr4
  have HR5 := Lib.hid hr5
  have HW1 := Lib.hid hw1
  have HF1 := Lib.hid hf1
  have HB1 := Lib.hid hb1
  obtain ⟨x0, x1, x2, x3, x4, x5, x6⟩ := row_cells7 (hf1.blk (hfA1.blk hr2 List.not_mem_nil) List.not_mem_nil)
  have HANY := Lib.hid (fun W => any_bytes s hs (.slice none 0 0) W)
  clear hA0 hA hfA0 hfA1 hsA0 hsA hr2 hr4 hr5 hw1 hf1 hb1 hG
  go_enter_defers Tryz.func10, Tryz.ntmps10
  go_upto_region 3 with fail
  rw [← HA0.out, ← HSA0.out, ← HA.out, ← HW1.out]
  obtain ⟨H, hH⟩ : ∃ H, H = A0.heap.size := ⟨_, rfl⟩
  obtain ⟨b, hb⟩ : ∃ b, b = A.heap.size := ⟨_, rfl⟩
  have hb2 : A0.heap.size + 1 + 1 = b := by rw [hb, HSA.out, HSA0.out]
  rw [hb2, ← hH]
  have HR4 : Hid (A.heap[H]? = some (.cells #[.string { data := #[] }] 9 (0, 0))) := Lib.hid (by rw [hH]; exact HR4.out)
  have HR5 : Hid (A.heap[H + 1]? = some (.cells #[.int .i64 0] 3 (0, 0))) := Lib.hid (by rw [hH]; exact HR5.out)
  have HB1 : Hid (w1.heap[b]? = some (.cells #[.slice none 0 0, .int .i64 0, .int .i8 0] 46 (0, 0))) := Lib.hid (by rw [hb]; exact HB1.out)
  have HAB := Lib.hid hb
  have HHH : Hid (w.heap.size ≤ H) := Lib.hid (by rw [hH, HSA0.out]; exact Nat.le_succ _)
  clear hb2 hb hH
  go_upto_region 4 with (first
    | (go_at_call 25; refine (HANY.out _).mono ?_; rintro e w2 ⟨v, rfl, ⟨cv, rfl, hcv, hcg⟩, hf2⟩; have HF2 := Lib.hid hf2; have HCV := Lib.hid hcv; have HCG := Lib.hid hcg; clear hcv hcg; clear hf2)
    | (go_at_call 16; refine (newOpts_any _).mono ?_; rintro e w3 ⟨o, bp, rfl, hf3, ho3, hp3, hzo, hzb, hne⟩; have HF13 := Lib.hid (HF2.out.trans hf3); have HFA3 := Lib.hid (HF1.out.trans HF13.out); have HM3 := mach_new HB1.out HF13.out ho3 hp3; have HB3 := mblk_new (B := A.heap.size) (bp := bp) (b := b) (Nat.le_trans (HF1.out.trans HF2.out).size hzb) (Nat.le_of_eq HAB.out.symm); have HG3 := HGA.out.fr HFA3.out (fun _ h => by cases h); have HCV3 := HCV.out.fr hf3 (fun _ _ => List.not_mem_nil); have HCN3 := not_mblk (bp := bp) (b := b) HCV.out hzb (fun g hg => Nat.lt_of_lt_of_le (Array.getElem?_eq_some_iff.1 HB1.out).1 (HCG.out g hg)); have HCALL := Lib.hid (msh_bytes (ea := ea) cv s.data.toList A o bp b w3 HFA3.out HG3 HM3 HB3 HCV3 HCN3 (by simp; have : s.data.size = s.size := rfl; omega)); clear HM3 HG3 HB3 hf3 ho3 hp3 hzo hzb hne HCV3 HCN3)
    | (go_at_call 24; refine HCALL.out.mono ?_; rintro e wy ⟨rfl, hq⟩; have HOUT := Lib.hid hq; clear hq))
  obtain ⟨bv4, hb4⟩ := HOUT.out.2
  have HSTR := Lib.hid (bufString_any hb4)
  clear hb4
  go_wp2_with (first
    | (go_at_call 17; refine HSTR.out.mono ?_; rintro e w5 ⟨rfl, hf5⟩; have HF5 := Lib.hid hf5; clear hf5)
    | (go_at_call 18; refine (stateOf_nil w5).mono ?_; rintro e w6 ⟨rfl, rfl⟩; have r4 := HF5.out.blk (HOUT.out.1.blk HR4.out List.not_mem_nil) List.not_mem_nil; have r5 := HF5.out.blk (HOUT.out.1.blk HR5.out List.not_mem_nil) List.not_mem_nil; have f4 := frozen_of_row w6 H 0 _ 9 r4; have f5 := frozen_of_row w6 (H + 1) 0 _ 3 r5; have d4 := cell_of_row w6 H 0 _ 9 _ r4; have d5 := cell_of_row w6 (H + 1) 0 _ 3 _ r5; clear r4 r5))
  refine leaves_cons (f := 23) (args := #[.pointer (some ⟨H, 0, none⟩), .pointer (some ⟨H + 1, 0, none⟩)]) (by simp) (by simp [go_sem]) ?_
  refine (recover_idle23 _ _ _).mono ?_
  rintro e u' w'' ⟨rfl, rfl, rfl⟩
  have hHH := HHH.out
  simp [Leaves, settle, results, Tryz.results10, go_sem, d4, d5]
  exact ((((HFA.out.trans HOUT.out.1).trans HF5.out).setCell (.inr hHH) _).setCell (.inr (Nat.le_succ_of_le hHH)) _)
set_option maxRecDepth 100000 in
set_option maxHeartbeats 4000000 in
theorem wr_err {ea : Addr} (s : ByteArray) (hs : s.size ≤ 1000000) (w : World) (hG : Gv w.heap.size ea w) :
    Calls Tryz.prog 10 #[plV 8 s 0 0 false, .slice none 0 0] w fun e w' => e = .returned (.tuple #[.string ⟨(33 :: (Lib.itoa (s.data.toList.length : Int) ++ [13, 10] ++ s.data.toList ++ [13, 10]) : List UInt8).toArray⟩, .int .i64 0]) ∧ Fr [] w w' := by
  have hmf : ∀ (fn : Fn) (first cap : Array Value) (w : World), (Instr.makeFunc fn first cap).run Tryz.prog w = .ok (.func fn first cap) w := fun _ _ _ _ => rfl
  obtain ⟨A0, hA0⟩ : ∃ A0, A0 = w.alloc (.cells (plC 8 s 0 0 false) 32) := ⟨_, rfl⟩
  obtain ⟨A, hA⟩ : ∃ A, A = (A0.alloc (.cells #[.string { data := #[] }] 9)).alloc (.cells #[.int .i64 0] 3) := ⟨_, rfl⟩
  have hfA0 : Fr [] w A0 := by rw [hA0]; exact (Fr.refl [] w).alloc _
  have hfA1 : Fr [] A0 A := by rw [hA]; exact ((Fr.refl [] A0).alloc _).alloc _
  have hsA0 : A0.heap.size = w.heap.size + 1 := by rw [hA0]; simp
  have hsA : A.heap.size = w.heap.size + 3 := by rw [hA]; simp; omega
  have hr2 : A0.heap[w.heap.size]? = some (.cells (plC 8 s 0 0 false) 32 (0, 0)) := by rw [hA0]; exact heap_alloc_new w _
  have hr4 : A.heap[A0.heap.size]? = some (.cells #[.string { data := #[] }] 9 (0, 0)) := by
    rw [hA]; exact ((Fr.refl [] _).alloc _).blk (heap_alloc_new A0 _) List.not_mem_nil
  have hr5 : A.heap[A0.heap.size + 1]? = some (.cells #[.int .i64 0] 3 (0, 0)) := by
    rw [hA]
    have := heap_alloc_new (A0.alloc (.cells #[.string { data := #[] }] 9)) (.cells #[.int .i64 0] 3)
    rw [show (A0.alloc (.cells #[.string { data := #[] }] 9)).heap.size = A0.heap.size + 1 from by simp] at this
    exact this
  obtain ⟨w1, hw1⟩ : ∃ x, x = A.alloc (.cells #[.slice none 0 0, .int .i64 0, .int .i8 0] 46) := ⟨_, rfl⟩
  have hf1 : Fr [] A w1 := by rw [hw1]; exact (Fr.refl [] A).alloc _
  have hb1 : w1.heap[A.heap.size]? = some (.cells #[.slice none 0 0, .int .i64 0, .int .i8 0] 46 (0, 0)) := by rw [hw1]; exact heap_alloc_new A _
  have HGA : Hid (Gv A.heap.size ea A) := Lib.hid (hG.fr (hfA0.trans hfA1) (fun _ h => by cases h)).base
  have HA := Lib.hid hA
  have HA0 := Lib.hid hA0
  have HFA := Lib.hid (hfA0.trans hfA1)
  have HSA := Lib.hid hsA
  have HSA0 := Lib.hid hsA0
  have HR4 := Lib.hid hr4
  have HR5 := Lib.hid hr5
  have HW1 := Lib.hid hw1
  have HF1 := Lib.hid hf1
  have HB1 := Lib.hid hb1
  obtain ⟨x0, x1, x2, x3, x4, x5, x6⟩ := row_cells7 (hf1.blk (hfA1.blk hr2 List.not_mem_nil) List.not_mem_nil)
  have HANY := Lib.hid (fun W => any_err s (.slice none 0 0) W)
  clear hA0 hA hfA0 hfA1 hsA0 hsA hr2 hr4 hr5 hw1 hf1 hb1 hG
  go_enter_defers Tryz.func10, Tryz.ntmps10
  go_upto_region 3 with fail
  rw [← HA0.out, ← HSA0.out, ← HA.out, ← HW1.out]
  obtain ⟨H, hH⟩ : ∃ H, H = A0.heap.size := ⟨_, rfl⟩
  obtain ⟨b, hb⟩ : ∃ b, b = A.heap.size := ⟨_, rfl⟩
  have hb2 : A0.heap.size + 1 + 1 = b := by rw [hb, HSA.out, HSA0.out]
  rw [hb2, ← hH]
  have HR4 : Hid (A.heap[H]? = some (.cells #[.string { data := #[] }] 9 (0, 0))) := Lib.hid (by rw [hH]; exact HR4.out)
  have HR5 : Hid (A.heap[H + 1]? = some (.cells #[.int .i64 0] 3 (0, 0))) := Lib.hid (by rw [hH]; exact HR5.out)
  have HB1 : Hid (w1.heap[b]? = some (.cells #[.slice none 0 0, .int .i64 0, .int .i8 0] 46 (0, 0))) := Lib.hid (by rw [hb]; exact HB1.out)
  have HAB := Lib.hid hb
  have HHH : Hid (w.heap.size ≤ H) := Lib.hid (by rw [hH, HSA0.out]; exact Nat.le_succ _)
  clear hb2 hb hH
  go_upto_region 4 with (first
    | (go_at_call 25; refine (HANY.out _).mono ?_; rintro e w2 ⟨v, rfl, ⟨g, rfl, hgr, hgg⟩, hf2⟩; have HF2 := Lib.hid hf2; have HGR := Lib.hid hgr; clear hgr hgg; clear hf2)
    | (go_at_call 16; refine (newOpts_any _).mono ?_; rintro e w3 ⟨o, bp, rfl, hf3, ho3, hp3, hzo, hzb, hne⟩; have HF13 := Lib.hid (HF2.out.trans hf3); have HFA3 := Lib.hid (HF1.out.trans HF13.out); have HM3 := mach_new HB1.out HF13.out ho3 hp3; have HB3 := mblk_new (B := A.heap.size) (bp := bp) (b := b) (Nat.le_trans (HF1.out.trans HF2.out).size hzb) (Nat.le_of_eq HAB.out.symm); have HG3 := HGA.out.fr HFA3.out (fun _ h => by cases h); have HGR3 := hf3.blk HGR.out List.not_mem_nil; have HCALL := Lib.hid (msh_err (ea := ea) s hs A o bp b w3 HFA3.out HG3 HM3 HB3 g HGR3); clear HM3 HG3 HB3 hf3 ho3 hp3 hzo hzb hne HGR3)
    | (go_at_call 24; refine HCALL.out.mono ?_; rintro e wy ⟨rfl, hq⟩; have HOUT := Lib.hid hq; clear hq))
  obtain ⟨bv4, hb4⟩ := HOUT.out.2
  have HSTR := Lib.hid (bufString_any hb4)
  clear hb4
  go_wp2_with (first
    | (go_at_call 17; refine HSTR.out.mono ?_; rintro e w5 ⟨rfl, hf5⟩; have HF5 := Lib.hid hf5; clear hf5)
    | (go_at_call 18; refine (stateOf_nil w5).mono ?_; rintro e w6 ⟨rfl, rfl⟩; have r4 := HF5.out.blk (HOUT.out.1.blk HR4.out List.not_mem_nil) List.not_mem_nil; have r5 := HF5.out.blk (HOUT.out.1.blk HR5.out List.not_mem_nil) List.not_mem_nil; have f4 := frozen_of_row w6 H 0 _ 9 r4; have f5 := frozen_of_row w6 (H + 1) 0 _ 3 r5; have d4 := cell_of_row w6 H 0 _ 9 _ r4; have d5 := cell_of_row w6 (H + 1) 0 _ 3 _ r5; clear r4 r5))
  refine leaves_cons (f := 23) (args := #[.pointer (some ⟨H, 0, none⟩), .pointer (some ⟨H + 1, 0, none⟩)]) (by simp) (by simp [go_sem]) ?_
  refine (recover_idle23 _ _ _).mono ?_
  rintro e u' w'' ⟨rfl, rfl, rfl⟩
  have hHH := HHH.out
  simp [Leaves, settle, results, Tryz.results10, go_sem, d4, d5]
  exact ((((HFA.out.trans HOUT.out.1).trans HF5.out).setCell (.inr hHH) _).setCell (.inr (Nat.le_succ_of_le hHH)) _)
set_option maxRecDepth 100000 in
set_option maxHeartbeats 4000000 in
theorem wr_bool {ea : Addr} (is : Bool) (w : World) (hG : Gv w.heap.size ea w) :
    Calls Tryz.prog 10 #[plV 4 ⟨#[]⟩ 0 0 is, .slice none 0 0] w fun e w' => e = .returned (.tuple #[.string ⟨([35, bch is, 13, 10] : List UInt8).toArray⟩, .int .i64 0]) ∧ Fr [] w w' := by
  have hmf : ∀ (fn : Fn) (first cap : Array Value) (w : World), (Instr.makeFunc fn first cap).run Tryz.prog w = .ok (.func fn first cap) w := fun _ _ _ _ => rfl
  obtain ⟨A0, hA0⟩ : ∃ A0, A0 = w.alloc (.cells (plC 4 ⟨#[]⟩ 0 0 is) 32) := ⟨_, rfl⟩
  obtain ⟨A, hA⟩ : ∃ A, A = (A0.alloc (.cells #[.string { data := #[] }] 9)).alloc (.cells #[.int .i64 0] 3) := ⟨_, rfl⟩
  have hfA0 : Fr [] w A0 := by rw [hA0]; exact (Fr.refl [] w).alloc _
  have hfA1 : Fr [] A0 A := by rw [hA]; exact ((Fr.refl [] A0).alloc _).alloc _
  have hsA0 : A0.heap.size = w.heap.size + 1 := by rw [hA0]; simp
  have hsA : A.heap.size = w.heap.size + 3 := by rw [hA]; simp; omega
  have hr2 : A0.heap[w.heap.size]? = some (.cells (plC 4 ⟨#[]⟩ 0 0 is) 32 (0, 0)) := by rw [hA0]; exact heap_alloc_new w _
  have hr4 : A.heap[A0.heap.size]? = some (.cells #[.string { data := #[] }] 9 (0, 0)) := by
    rw [hA]; exact ((Fr.refl [] _).alloc _).blk (heap_alloc_new A0 _) List.not_mem_nil
  have hr5 : A.heap[A0.heap.size + 1]? = some (.cells #[.int .i64 0] 3 (0, 0)) := by
    rw [hA]
    have := heap_alloc_new (A0.alloc (.cells #[.string { data := #[] }] 9)) (.cells #[.int .i64 0] 3)
    rw [show (A0.alloc (.cells #[.string { data := #[] }] 9)).heap.size = A0.heap.size + 1 from by simp] at this
    exact this
  obtain ⟨w1, hw1⟩ : ∃ x, x = A.alloc (.cells #[.slice none 0 0, .int .i64 0, .int .i8 0] 46) := ⟨_, rfl⟩
  have hf1 : Fr [] A w1 := by rw [hw1]; exact (Fr.refl [] A).alloc _
  have hb1 : w1.heap[A.heap.size]? = some (.cells #[.slice none 0 0, .int .i64 0, .int .i8 0] 46 (0, 0)) := by rw [hw1]; exact heap_alloc_new A _
  have HGA : Hid (Gv A.heap.size ea A) := Lib.hid (hG.fr (hfA0.trans hfA1) (fun _ h => by cases h)).base
  have HA := Lib.hid hA
  have HA0 := Lib.hid hA0
  have HFA := Lib.hid (hfA0.trans hfA1)
  have HSA := Lib.hid hsA
  have HSA0 := Lib.hid hsA0
  have HR4 := Lib.hid hr4
  have HR5 := Lib.hid hr5
  have HW1 := Lib.hid hw1
  have HF1 := Lib.hid hf1
  have HB1 := Lib.hid hb1
  obtain ⟨x0, x1, x2, x3, x4, x5, x6⟩ := row_cells7 (hf1.blk (hfA1.blk hr2 List.not_mem_nil) List.not_mem_nil)
  have HANY := Lib.hid (fun W => any_bool is (.slice none 0 0) W)
  clear hA0 hA hfA0 hfA1 hsA0 hsA hr2 hr4 hr5 hw1 hf1 hb1 hG
  go_enter_defers Tryz.func10, Tryz.ntmps10
  go_upto_region 3 with fail
  rw [← HA0.out, ← HSA0.out, ← HA.out, ← HW1.out]
  obtain ⟨H, hH⟩ : ∃ H, H = A0.heap.size := ⟨_, rfl⟩
  obtain ⟨b, hb⟩ : ∃ b, b = A.heap.size := ⟨_, rfl⟩
  have hb2 : A0.heap.size + 1 + 1 = b := by rw [hb, HSA.out, HSA0.out]
  rw [hb2, ← hH]
  have HR4 : Hid (A.heap[H]? = some (.cells #[.string { data := #[] }] 9 (0, 0))) := Lib.hid (by rw [hH]; exact HR4.out)
  have HR5 : Hid (A.heap[H + 1]? = some (.cells #[.int .i64 0] 3 (0, 0))) := Lib.hid (by rw [hH]; exact HR5.out)
  have HB1 : Hid (w1.heap[b]? = some (.cells #[.slice none 0 0, .int .i64 0, .int .i8 0] 46 (0, 0))) := Lib.hid (by rw [hb]; exact HB1.out)
  have HAB := Lib.hid hb
  have HHH : Hid (w.heap.size ≤ H) := Lib.hid (by rw [hH, HSA0.out]; exact Nat.le_succ _)
  clear hb2 hb hH
  go_upto_region 4 with (first
    | (go_at_call 25; refine (HANY.out _).mono ?_; rintro e w2 ⟨v, rfl, rfl, hf2⟩; have HF2 := Lib.hid hf2; clear hf2)
    | (go_at_call 16; refine (newOpts_any _).mono ?_; rintro e w3 ⟨o, bp, rfl, hf3, ho3, hp3, hzo, hzb, hne⟩; have HF13 := Lib.hid (HF2.out.trans hf3); have HFA3 := Lib.hid (HF1.out.trans HF13.out); have HM3 := mach_new HB1.out HF13.out ho3 hp3; have HB3 := mblk_new (B := A.heap.size) (bp := bp) (b := b) (Nat.le_trans (HF1.out.trans HF2.out).size hzb) (Nat.le_of_eq HAB.out.symm); have HG3 := HGA.out.fr HFA3.out (fun _ h => by cases h); have HCALL := Lib.hid (msh_bool (ea := ea) is A o bp b w3 HFA3.out HG3 HM3 HB3); clear HM3 HG3 HB3 hf3 ho3 hp3 hzo hzb hne)
    | (go_at_call 24; refine HCALL.out.mono ?_; rintro e wy ⟨rfl, hq⟩; have HOUT := Lib.hid hq; clear hq))
  obtain ⟨bv4, hb4⟩ := HOUT.out.2
  have HSTR := Lib.hid (bufString_any hb4)
  clear hb4
  go_wp2_with (first
    | (go_at_call 17; refine HSTR.out.mono ?_; rintro e w5 ⟨rfl, hf5⟩; have HF5 := Lib.hid hf5; clear hf5)
    | (go_at_call 18; refine (stateOf_nil w5).mono ?_; rintro e w6 ⟨rfl, rfl⟩; have r4 := HF5.out.blk (HOUT.out.1.blk HR4.out List.not_mem_nil) List.not_mem_nil; have r5 := HF5.out.blk (HOUT.out.1.blk HR5.out List.not_mem_nil) List.not_mem_nil; have f4 := frozen_of_row w6 H 0 _ 9 r4; have f5 := frozen_of_row w6 (H + 1) 0 _ 3 r5; have d4 := cell_of_row w6 H 0 _ 9 _ r4; have d5 := cell_of_row w6 (H + 1) 0 _ 3 _ r5; clear r4 r5))
  refine leaves_cons (f := 23) (args := #[.pointer (some ⟨H, 0, none⟩), .pointer (some ⟨H + 1, 0, none⟩)]) (by simp) (by simp [go_sem]) ?_
  refine (recover_idle23 _ _ _).mono ?_
  rintro e u' w'' ⟨rfl, rfl, rfl⟩
  have hHH := HHH.out
  simp [Leaves, settle, results, Tryz.results10, go_sem, d4, d5]
  exact ((((HFA.out.trans HOUT.out.1).trans HF5.out).setCell (.inr hHH) _).setCell (.inr (Nat.le_succ_of_le hHH)) _)
set_option maxRecDepth 100000 in
set_option maxHeartbeats 4000000 in
theorem wr_float {ea : Addr} (n : Nat) (hn : n < 18446744073709551616) (w : World) (hG : Gp w.heap.size ea w) :
    Calls Tryz.prog 10 #[plV 5 ⟨#[]⟩ 0 n false, .slice none 0 0] w fun e w' => e = .returned (.tuple #[.string ⟨(44 :: (dTx n ++ [13, 10]) : List UInt8).toArray⟩, .int .i64 0]) ∧ Fr [] w w' := by
  have hmf : ∀ (fn : Fn) (first cap : Array Value) (w : World), (Instr.makeFunc fn first cap).run Tryz.prog w = .ok (.func fn first cap) w := fun _ _ _ _ => rfl
  obtain ⟨A0, hA0⟩ : ∃ A0, A0 = w.alloc (.cells (plC 5 ⟨#[]⟩ 0 n false) 32) := ⟨_, rfl⟩
  obtain ⟨A, hA⟩ : ∃ A, A = (A0.alloc (.cells #[.string { data := #[] }] 9)).alloc (.cells #[.int .i64 0] 3) := ⟨_, rfl⟩
  have hfA0 : Fr [] w A0 := by rw [hA0]; exact (Fr.refl [] w).alloc _
  have hfA1 : Fr [] A0 A := by rw [hA]; exact ((Fr.refl [] A0).alloc _).alloc _
  have hsA0 : A0.heap.size = w.heap.size + 1 := by rw [hA0]; simp
  have hsA : A.heap.size = w.heap.size + 3 := by rw [hA]; simp; omega
  have hr2 : A0.heap[w.heap.size]? = some (.cells (plC 5 ⟨#[]⟩ 0 n false) 32 (0, 0)) := by rw [hA0]; exact heap_alloc_new w _
  have hr4 : A.heap[A0.heap.size]? = some (.cells #[.string { data := #[] }] 9 (0, 0)) := by
    rw [hA]; exact ((Fr.refl [] _).alloc _).blk (heap_alloc_new A0 _) List.not_mem_nil
  have hr5 : A.heap[A0.heap.size + 1]? = some (.cells #[.int .i64 0] 3 (0, 0)) := by
    rw [hA]
    have := heap_alloc_new (A0.alloc (.cells #[.string { data := #[] }] 9)) (.cells #[.int .i64 0] 3)
    rw [show (A0.alloc (.cells #[.string { data := #[] }] 9)).heap.size = A0.heap.size + 1 from by simp] at this
    exact this
  obtain ⟨w1, hw1⟩ : ∃ x, x = A.alloc (.cells #[.slice none 0 0, .int .i64 0, .int .i8 0] 46) := ⟨_, rfl⟩
  have hf1 : Fr [] A w1 := by rw [hw1]; exact (Fr.refl [] A).alloc _
  have hb1 : w1.heap[A.heap.size]? = some (.cells #[.slice none 0 0, .int .i64 0, .int .i8 0] 46 (0, 0)) := by rw [hw1]; exact heap_alloc_new A _
  have HGA : Hid (Gp A.heap.size ea A) := Lib.hid (hG.fr (hfA0.trans hfA1) (fun _ h => by cases h)).base
  have HA := Lib.hid hA
  have HA0 := Lib.hid hA0
  have HFA := Lib.hid (hfA0.trans hfA1)
  have HSA := Lib.hid hsA
  have HSA0 := Lib.hid hsA0
  have HR4 := Lib.hid hr4
  have HR5 := Lib.hid hr5
  have HW1 := Lib.hid hw1
  have HF1 := Lib.hid hf1
  have HB1 := Lib.hid hb1
  obtain ⟨x0, x1, x2, x3, x4, x5, x6⟩ := row_cells7 (hf1.blk (hfA1.blk hr2 List.not_mem_nil) List.not_mem_nil)
  have HANY := Lib.hid (fun W => any_float n (.slice none 0 0) W)
  clear hA0 hA hfA0 hfA1 hsA0 hsA hr2 hr4 hr5 hw1 hf1 hb1 hG
  go_enter_defers Tryz.func10, Tryz.ntmps10
  go_upto_region 3 with fail
  rw [← HA0.out, ← HSA0.out, ← HA.out, ← HW1.out]
  obtain ⟨H, hH⟩ : ∃ H, H = A0.heap.size := ⟨_, rfl⟩
  obtain ⟨b, hb⟩ : ∃ b, b = A.heap.size := ⟨_, rfl⟩
  have hb2 : A0.heap.size + 1 + 1 = b := by rw [hb, HSA.out, HSA0.out]
  rw [hb2, ← hH]
  have HR4 : Hid (A.heap[H]? = some (.cells #[.string { data := #[] }] 9 (0, 0))) := Lib.hid (by rw [hH]; exact HR4.out)
  have HR5 : Hid (A.heap[H + 1]? = some (.cells #[.int .i64 0] 3 (0, 0))) := Lib.hid (by rw [hH]; exact HR5.out)
  have HB1 : Hid (w1.heap[b]? = some (.cells #[.slice none 0 0, .int .i64 0, .int .i8 0] 46 (0, 0))) := Lib.hid (by rw [hb]; exact HB1.out)
  have HAB := Lib.hid hb
  have HHH : Hid (w.heap.size ≤ H) := Lib.hid (by rw [hH, HSA0.out]; exact Nat.le_succ _)
  clear hb2 hb hH
  go_upto_region 4 with (first
    | (go_at_call 25; refine (HANY.out _).mono ?_; rintro e w2 ⟨v, rfl, rfl, hf2⟩; have HF2 := Lib.hid hf2; clear hf2)
    | (go_at_call 16; refine (newOpts_any _).mono ?_; rintro e w3 ⟨o, bp, rfl, hf3, ho3, hp3, hzo, hzb, hne⟩; have HF13 := Lib.hid (HF2.out.trans hf3); have HFA3 := Lib.hid (HF1.out.trans HF13.out); have HM3 := mach_new HB1.out HF13.out ho3 hp3; have HB3 := mblk_new (B := A.heap.size) (bp := bp) (b := b) (Nat.le_trans (HF1.out.trans HF2.out).size hzb) (Nat.le_of_eq HAB.out.symm); have HG3 := HGA.out.fr HFA3.out (fun _ h => by cases h); have HCALL := Lib.hid (msh_float (ea := ea) n A o bp b w3 HFA3.out HG3 HM3 HB3 hn); clear HM3 HG3 HB3 hf3 ho3 hp3 hzo hzb hne)
    | (go_at_call 24; refine HCALL.out.mono ?_; rintro e wy ⟨rfl, hq⟩; have HOUT := Lib.hid hq; clear hq))
  obtain ⟨bv4, hb4⟩ := HOUT.out.2
  have HSTR := Lib.hid (bufString_any hb4)
  clear hb4
  go_wp2_with (first
    | (go_at_call 17; refine HSTR.out.mono ?_; rintro e w5 ⟨rfl, hf5⟩; have HF5 := Lib.hid hf5; clear hf5)
    | (go_at_call 18; refine (stateOf_nil w5).mono ?_; rintro e w6 ⟨rfl, rfl⟩; have r4 := HF5.out.blk (HOUT.out.1.blk HR4.out List.not_mem_nil) List.not_mem_nil; have r5 := HF5.out.blk (HOUT.out.1.blk HR5.out List.not_mem_nil) List.not_mem_nil; have f4 := frozen_of_row w6 H 0 _ 9 r4; have f5 := frozen_of_row w6 (H + 1) 0 _ 3 r5; have d4 := cell_of_row w6 H 0 _ 9 _ r4; have d5 := cell_of_row w6 (H + 1) 0 _ 3 _ r5; clear r4 r5))
  refine leaves_cons (f := 23) (args := #[.pointer (some ⟨H, 0, none⟩), .pointer (some ⟨H + 1, 0, none⟩)]) (by simp) (by simp [go_sem]) ?_
  refine (recover_idle23 _ _ _).mono ?_
  rintro e u' w'' ⟨rfl, rfl, rfl⟩
  have hHH := HHH.out
  simp [Leaves, settle, results, Tryz.results10, go_sem, d4, d5]
  exact ((((HFA.out.trans HOUT.out.1).trans HF5.out).setCell (.inr hHH) _).setCell (.inr (Nat.le_succ_of_le hHH)) _)
set_option maxRecDepth 100000 in
set_option maxHeartbeats 4000000 in
theorem wr_int {ea : Addr} (n : Int) (h0 : -9223372036854775808 ≤ n) (h1 : n ≤ 9223372036854775807) (w : World) (hG : Gv w.heap.size ea w) :
    Calls Tryz.prog 10 #[plV 6 ⟨#[]⟩ n 0 false, .slice none 0 0] w fun e w' => e = .returned (.tuple #[.string ⟨(58 :: (Lib.itoa n ++ [13, 10]) : List UInt8).toArray⟩, .int .i64 0]) ∧ Fr [] w w' := by
  have hmf : ∀ (fn : Fn) (first cap : Array Value) (w : World), (Instr.makeFunc fn first cap).run Tryz.prog w = .ok (.func fn first cap) w := fun _ _ _ _ => rfl
  obtain ⟨A0, hA0⟩ : ∃ A0, A0 = w.alloc (.cells (plC 6 ⟨#[]⟩ n 0 false) 32) := ⟨_, rfl⟩
  obtain ⟨A, hA⟩ : ∃ A, A = (A0.alloc (.cells #[.string { data := #[] }] 9)).alloc (.cells #[.int .i64 0] 3) := ⟨_, rfl⟩
  have hfA0 : Fr [] w A0 := by rw [hA0]; exact (Fr.refl [] w).alloc _
  have hfA1 : Fr [] A0 A := by rw [hA]; exact ((Fr.refl [] A0).alloc _).alloc _
  have hsA0 : A0.heap.size = w.heap.size + 1 := by rw [hA0]; simp
  have hsA : A.heap.size = w.heap.size + 3 := by rw [hA]; simp; omega
  have hr2 : A0.heap[w.heap.size]? = some (.cells (plC 6 ⟨#[]⟩ n 0 false) 32 (0, 0)) := by rw [hA0]; exact heap_alloc_new w _
  have hr4 : A.heap[A0.heap.size]? = some (.cells #[.string { data := #[] }] 9 (0, 0)) := by
    rw [hA]; exact ((Fr.refl [] _).alloc _).blk (heap_alloc_new A0 _) List.not_mem_nil
  have hr5 : A.heap[A0.heap.size + 1]? = some (.cells #[.int .i64 0] 3 (0, 0)) := by
    rw [hA]
    have := heap_alloc_new (A0.alloc (.cells #[.string { data := #[] }] 9)) (.cells #[.int .i64 0] 3)
    rw [show (A0.alloc (.cells #[.string { data := #[] }] 9)).heap.size = A0.heap.size + 1 from by simp] at this
    exact this
  obtain ⟨w1, hw1⟩ : ∃ x, x = A.alloc (.cells #[.slice none 0 0, .int .i64 0, .int .i8 0] 46) := ⟨_, rfl⟩
  have hf1 : Fr [] A w1 := by rw [hw1]; exact (Fr.refl [] A).alloc _
  have hb1 : w1.heap[A.heap.size]? = some (.cells #[.slice none 0 0, .int .i64 0, .int .i8 0] 46 (0, 0)) := by rw [hw1]; exact heap_alloc_new A _
  have HGA : Hid (Gv A.heap.size ea A) := Lib.hid (hG.fr (hfA0.trans hfA1) (fun _ h => by cases h)).base
  have HA := Lib.hid hA
  have HA0 := Lib.hid hA0
  have HFA := Lib.hid (hfA0.trans hfA1)
  have HSA := Lib.hid hsA
  have HSA0 := Lib.hid hsA0
  have HR4 := Lib.hid hr4
  have HR5 := Lib.hid hr5
  have HW1 := Lib.hid hw1
  have HF1 := Lib.hid hf1
  have HB1 := Lib.hid hb1
  obtain ⟨x0, x1, x2, x3, x4, x5, x6⟩ := row_cells7 (hf1.blk (hfA1.blk hr2 List.not_mem_nil) List.not_mem_nil)
  have HANY := Lib.hid (fun W => any_int n (.slice none 0 0) W)
  clear hA0 hA hfA0 hfA1 hsA0 hsA hr2 hr4 hr5 hw1 hf1 hb1 hG
  go_enter_defers Tryz.func10, Tryz.ntmps10
  go_upto_region 3 with fail
  rw [← HA0.out, ← HSA0.out, ← HA.out, ← HW1.out]
  obtain ⟨H, hH⟩ : ∃ H, H = A0.heap.size := ⟨_, rfl⟩
  obtain ⟨b, hb⟩ : ∃ b, b = A.heap.size := ⟨_, rfl⟩
  have hb2 : A0.heap.size + 1 + 1 = b := by rw [hb, HSA.out, HSA0.out]
  rw [hb2, ← hH]
  have HR4 : Hid (A.heap[H]? = some (.cells #[.string { data := #[] }] 9 (0, 0))) := Lib.hid (by rw [hH]; exact HR4.out)
  have HR5 : Hid (A.heap[H + 1]? = some (.cells #[.int .i64 0] 3 (0, 0))) := Lib.hid (by rw [hH]; exact HR5.out)
  have HB1 : Hid (w1.heap[b]? = some (.cells #[.slice none 0 0, .int .i64 0, .int .i8 0] 46 (0, 0))) := Lib.hid (by rw [hb]; exact HB1.out)
  have HAB := Lib.hid hb
  have HHH : Hid (w.heap.size ≤ H) := Lib.hid (by rw [hH, HSA0.out]; exact Nat.le_succ _)
  clear hb2 hb hH
  go_upto_region 4 with (first
    | (go_at_call 25; refine (HANY.out _).mono ?_; rintro e w2 ⟨v, rfl, rfl, hf2⟩; have HF2 := Lib.hid hf2; clear hf2)
    | (go_at_call 16; refine (newOpts_any _).mono ?_; rintro e w3 ⟨o, bp, rfl, hf3, ho3, hp3, hzo, hzb, hne⟩; have HF13 := Lib.hid (HF2.out.trans hf3); have HFA3 := Lib.hid (HF1.out.trans HF13.out); have HM3 := mach_new HB1.out HF13.out ho3 hp3; have HB3 := mblk_new (B := A.heap.size) (bp := bp) (b := b) (Nat.le_trans (HF1.out.trans HF2.out).size hzb) (Nat.le_of_eq HAB.out.symm); have HG3 := HGA.out.fr HFA3.out (fun _ h => by cases h); have HCALL := Lib.hid (msh_int (ea := ea) n A o bp b w3 HFA3.out HG3 HM3 HB3 h0 h1); clear HM3 HG3 HB3 hf3 ho3 hp3 hzo hzb hne)
    | (go_at_call 24; refine HCALL.out.mono ?_; rintro e wy ⟨rfl, hq⟩; have HOUT := Lib.hid hq; clear hq))
  obtain ⟨bv4, hb4⟩ := HOUT.out.2
  have HSTR := Lib.hid (bufString_any hb4)
  clear hb4
  go_wp2_with (first
    | (go_at_call 17; refine HSTR.out.mono ?_; rintro e w5 ⟨rfl, hf5⟩; have HF5 := Lib.hid hf5; clear hf5)
    | (go_at_call 18; refine (stateOf_nil w5).mono ?_; rintro e w6 ⟨rfl, rfl⟩; have r4 := HF5.out.blk (HOUT.out.1.blk HR4.out List.not_mem_nil) List.not_mem_nil; have r5 := HF5.out.blk (HOUT.out.1.blk HR5.out List.not_mem_nil) List.not_mem_nil; have f4 := frozen_of_row w6 H 0 _ 9 r4; have f5 := frozen_of_row w6 (H + 1) 0 _ 3 r5; have d4 := cell_of_row w6 H 0 _ 9 _ r4; have d5 := cell_of_row w6 (H + 1) 0 _ 3 _ r5; clear r4 r5))
  refine leaves_cons (f := 23) (args := #[.pointer (some ⟨H, 0, none⟩), .pointer (some ⟨H + 1, 0, none⟩)]) (by simp) (by simp [go_sem]) ?_
  refine (recover_idle23 _ _ _).mono ?_
  rintro e u' w'' ⟨rfl, rfl, rfl⟩
  have hHH := HHH.out
  simp [Leaves, settle, results, Tryz.results10, go_sem, d4, d5]
  exact ((((HFA.out.trans HOUT.out.1).trans HF5.out).setCell (.inr hHH) _).setCell (.inr (Nat.le_succ_of_le hHH)) _)
set_option maxRecDepth 100000 in
set_option maxHeartbeats 4000000 in
theorem wr_nil {ea : Addr}  (w : World) (hG : Gv w.heap.size ea w) :
    Calls Tryz.prog 10 #[plV 0 ⟨#[]⟩ 0 0 false, .slice none 0 0] w fun e w' => e = .returned (.tuple #[.string ⟨([95, 13, 10] : List UInt8).toArray⟩, .int .i64 0]) ∧ Fr [] w w' := by
  have hmf : ∀ (fn : Fn) (first cap : Array Value) (w : World), (Instr.makeFunc fn first cap).run Tryz.prog w = .ok (.func fn first cap) w := fun _ _ _ _ => rfl
  obtain ⟨A0, hA0⟩ : ∃ A0, A0 = w.alloc (.cells (plC 0 ⟨#[]⟩ 0 0 false) 32) := ⟨_, rfl⟩
  obtain ⟨A, hA⟩ : ∃ A, A = (A0.alloc (.cells #[.string { data := #[] }] 9)).alloc (.cells #[.int .i64 0] 3) := ⟨_, rfl⟩
  have hfA0 : Fr [] w A0 := by rw [hA0]; exact (Fr.refl [] w).alloc _
  have hfA1 : Fr [] A0 A := by rw [hA]; exact ((Fr.refl [] A0).alloc _).alloc _
  have hsA0 : A0.heap.size = w.heap.size + 1 := by rw [hA0]; simp
  have hsA : A.heap.size = w.heap.size + 3 := by rw [hA]; simp; omega
  have hr2 : A0.heap[w.heap.size]? = some (.cells (plC 0 ⟨#[]⟩ 0 0 false) 32 (0, 0)) := by rw [hA0]; exact heap_alloc_new w _
  have hr4 : A.heap[A0.heap.size]? = some (.cells #[.string { data := #[] }] 9 (0, 0)) := by
    rw [hA]; exact ((Fr.refl [] _).alloc _).blk (heap_alloc_new A0 _) List.not_mem_nil
  have hr5 : A.heap[A0.heap.size + 1]? = some (.cells #[.int .i64 0] 3 (0, 0)) := by
    rw [hA]
    have := heap_alloc_new (A0.alloc (.cells #[.string { data := #[] }] 9)) (.cells #[.int .i64 0] 3)
    rw [show (A0.alloc (.cells #[.string { data := #[] }] 9)).heap.size = A0.heap.size + 1 from by simp] at this
    exact this
  obtain ⟨w1, hw1⟩ : ∃ x, x = A.alloc (.cells #[.slice none 0 0, .int .i64 0, .int .i8 0] 46) := ⟨_, rfl⟩
  have hf1 : Fr [] A w1 := by rw [hw1]; exact (Fr.refl [] A).alloc _
  have hb1 : w1.heap[A.heap.size]? = some (.cells #[.slice none 0 0, .int .i64 0, .int .i8 0] 46 (0, 0)) := by rw [hw1]; exact heap_alloc_new A _
  have HGA : Hid (Gv A.heap.size ea A) := Lib.hid (hG.fr (hfA0.trans hfA1) (fun _ h => by cases h)).base
  have HA := Lib.hid hA
  have HA0 := Lib.hid hA0
  have HFA := Lib.hid (hfA0.trans hfA1)
  have HSA := Lib.hid hsA
  have HSA0 := Lib.hid hsA0
  have HR4 := Lib.hid hr4
  have HR5 := Lib.hid hr5
  have HW1 := Lib.hid hw1
  have HF1 := Lib.hid hf1
  have HB1 := Lib.hid hb1
  obtain ⟨x0, x1, x2, x3, x4, x5, x6⟩ := row_cells7 (hf1.blk (hfA1.blk hr2 List.not_mem_nil) List.not_mem_nil)
  have HANY := Lib.hid (fun W => any_nil (.slice none 0 0) W)
  clear hA0 hA hfA0 hfA1 hsA0 hsA hr2 hr4 hr5 hw1 hf1 hb1 hG
  go_enter_defers Tryz.func10, Tryz.ntmps10
  go_upto_region 3 with fail
  rw [← HA0.out, ← HSA0.out, ← HA.out, ← HW1.out]
  obtain ⟨H, hH⟩ : ∃ H, H = A0.heap.size := ⟨_, rfl⟩
  obtain ⟨b, hb⟩ : ∃ b, b = A.heap.size := ⟨_, rfl⟩
  have hb2 : A0.heap.size + 1 + 1 = b := by rw [hb, HSA.out, HSA0.out]
  rw [hb2, ← hH]
  have HR4 : Hid (A.heap[H]? = some (.cells #[.string { data := #[] }] 9 (0, 0))) := Lib.hid (by rw [hH]; exact HR4.out)
  have HR5 : Hid (A.heap[H + 1]? = some (.cells #[.int .i64 0] 3 (0, 0))) := Lib.hid (by rw [hH]; exact HR5.out)
  have HB1 : Hid (w1.heap[b]? = some (.cells #[.slice none 0 0, .int .i64 0, .int .i8 0] 46 (0, 0))) := Lib.hid (by rw [hb]; exact HB1.out)
  have HAB := Lib.hid hb
  have HHH : Hid (w.heap.size ≤ H) := Lib.hid (by rw [hH, HSA0.out]; exact Nat.le_succ _)
  clear hb2 hb hH
  go_upto_region 4 with (first
    | (go_at_call 25; refine (HANY.out _).mono ?_; rintro e w2 ⟨v, rfl, rfl, hf2⟩; have HF2 := Lib.hid hf2; clear hf2)
    | (go_at_call 16; refine (newOpts_any _).mono ?_; rintro e w3 ⟨o, bp, rfl, hf3, ho3, hp3, hzo, hzb, hne⟩; have HF13 := Lib.hid (HF2.out.trans hf3); have HFA3 := Lib.hid (HF1.out.trans HF13.out); have HM3 := mach_new HB1.out HF13.out ho3 hp3; have HB3 := mblk_new (B := A.heap.size) (bp := bp) (b := b) (Nat.le_trans (HF1.out.trans HF2.out).size hzb) (Nat.le_of_eq HAB.out.symm); have HG3 := HGA.out.fr HFA3.out (fun _ h => by cases h); have HCALL := Lib.hid (msh_nil (ea := ea) A o bp b w3 HFA3.out HG3 HM3 HB3); clear HM3 HG3 HB3 hf3 ho3 hp3 hzo hzb hne)
    | (go_at_call 24; refine HCALL.out.mono ?_; rintro e wy ⟨rfl, hq⟩; have HOUT := Lib.hid hq; clear hq))
  obtain ⟨bv4, hb4⟩ := HOUT.out.2
  have HSTR := Lib.hid (bufString_any hb4)
  clear hb4
  go_wp2_with (first
    | (go_at_call 17; refine HSTR.out.mono ?_; rintro e w5 ⟨rfl, hf5⟩; have HF5 := Lib.hid hf5; clear hf5)
    | (go_at_call 18; refine (stateOf_nil w5).mono ?_; rintro e w6 ⟨rfl, rfl⟩; have r4 := HF5.out.blk (HOUT.out.1.blk HR4.out List.not_mem_nil) List.not_mem_nil; have r5 := HF5.out.blk (HOUT.out.1.blk HR5.out List.not_mem_nil) List.not_mem_nil; have f4 := frozen_of_row w6 H 0 _ 9 r4; have f5 := frozen_of_row w6 (H + 1) 0 _ 3 r5; have d4 := cell_of_row w6 H 0 _ 9 _ r4; have d5 := cell_of_row w6 (H + 1) 0 _ 3 _ r5; clear r4 r5))
  refine leaves_cons (f := 23) (args := #[.pointer (some ⟨H, 0, none⟩), .pointer (some ⟨H + 1, 0, none⟩)]) (by simp) (by simp [go_sem]) ?_
  refine (recover_idle23 _ _ _).mono ?_
  rintro e u' w'' ⟨rfl, rfl, rfl⟩
  have hHH := HHH.out
  simp [Leaves, settle, results, Tryz.results10, go_sem, d4, d5]
  exact ((((HFA.out.trans HOUT.out.1).trans HF5.out).setCell (.inr hHH) _).setCell (.inr (Nat.le_succ_of_le hHH)) _)
end Go.Proofs.YtpkkgngpjeoffaaGreatDoor
