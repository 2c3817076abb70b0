/- PROVED HERE: resp3.Marshal (func 24) of bytes, a boolean, a double, nil, a whole number and an error: the bytes go behind what the buffer holds. CONDITIONS: those ahead of each theorem. -/
import Derived.Test.YtpkkgngpjeoffaaGreatDoorBufS
import Derived.Test.YtpkkgngpjeoffaaGreatDoorAnyT
import Derived.Test.YtpkkgngpjeoffaaGreatDoorNumT
import Derived.Test.YtpkkgngpjeoffaaGreatDoorBerT
import Derived.Test.YtpkkgngpjeoffaaGreatDoorBloT
import Derived.Test.YtpkkgngpjeoffaaGreatDoorNulT
import Derived.Test.YtpkkgngpjeoffaaGreatDoorDblT
import Derived.Stop.Asserts
namespace Go.Proofs.YtpkkgngpjeoffaaGreatDoor
open Go.RowKit

theorem Mach.fr0 {w w' : World} {o bp b : Nat} {pv : Value} {po : Option (Nat × Value)} {bv : Value} {bl : List UInt8} (h : Mach w o bp b pv po bv bl) (f : Fr [] w w') : Mach w' o bp b pv po bv bl := by
  obtain ⟨⟨c2, c3, c4, hOp⟩, hPl, hBf, hAp⟩ := h
  exact ⟨⟨c2, c3, c4, f.blk hOp List.not_mem_nil⟩, hPl.fr0 f, hBf.fr f List.not_mem_nil (fun _ _ => List.not_mem_nil), hAp⟩
set_option maxRecDepth 100000 in
set_option maxHeartbeats 4000000 in
theorem m1_any {ea : Addr} {B : Nat} (o bp b h0 h1 : Nat) (pv : Value) (po : Option (Nat × Value)) (bv cv : Value) (bl c : List UInt8) (w : World) (hG : Gv B ea w) (hM : Mach w o bp b pv po bv bl) (hB : ∀ s, s ∈ mblk bp b pv po bv → B ≤ s)
    (c0 : w.cell? ⟨h0, 0, none⟩ = some (.iface 56 (.pointer (some ⟨b, 0, none⟩)))) (c1 : w.cell? ⟨h1, 0, none⟩ = some (.pointer (some ⟨o, 0, none⟩)))
    (hc : Own w 5 cv c) (hcs : ∀ g, cv.ownBlock = some g → g ∉ mblk bp b pv po bv) (hlim : bl.length + c.length ≤ 100000000) :
    Calls Tryz.prog 51 #[cv, .pointer (some ⟨h0, 0, none⟩), .pointer (some ⟨h1, 0, none⟩)] w fun e w' => e = .returned .nilIface ∧ MQ w o bp b pv po bv bl (36 :: (Lib.itoa (c.length : Int) ++ [13, 10] ++ c ++ [13, 10])) w' := by
  obtain ⟨ca, cc, rfl⟩ := own_shape hc
  have HC := Lib.hid (blob_any (ea := ea) o bp b pv po bv _ (Lib.itoa (c.length : Int)) bl c w hG hM hB hc hcs rfl (Lib.itoa_length_le (c.length : Int) (by omega) (by omega)) hlim)
  clear hG hM hB hc hcs hlim
  go_enter Tryz.func51, Tryz.ntmps51
  go_wp2_with (go_at_call 33; refine HC.out.mono ?_; rintro e w1 ⟨rfl, hq⟩; have HQ := Lib.hid hq; clear hq)
  go_ret
  exact ⟨rfl, HQ.out⟩
set_option maxRecDepth 100000 in
theorem anyInt_any (n : Int) (w : World) : Calls Tryz.prog 55 #[.iface 3 (.int .i64 n)] w fun e w' => e = .returned (.int .i64 n) ∧ w' = w := by
  have h3 : ∀ W : World, (Instr.typeAssert (.iface 3 (.int .i64 n)) 20 3 true).run Tryz.prog W = .ok (.tuple #[.int .i64 n, .bool true]) W := fun _ => by kernel_rfl
  go_enter Tryz.func55, Tryz.ntmps55
  go_wp2_with fail
  go_ret
  exact ⟨rfl, rfl⟩
set_option maxRecDepth 100000 in
theorem errText_any (g : Nat) (s : ByteArray) (w : World) (c0 : w.cell? ⟨g, 0, none⟩ = some (.string s)) : Calls Tryz.prog 244 #[.pointer (some ⟨g, 0, none⟩)] w fun e w' => e = .returned (.string s) ∧ w' = w := by
  go_enter Tryz.func244, Tryz.ntmps244
  go_wp2_with fail
  go_ret
  exact ⟨rfl, rfl⟩
set_option maxRecDepth 100000 in
set_option maxHeartbeats 4000000 in
theorem msh_bytes {ea : Addr} (cv : Value) (c : List UInt8) (A : World) (o bp b : Nat) (w : World) (hfA : Fr [] A w) (hG : Gv A.heap.size ea w) (hM : Mach w o bp b (.slice none 0 0) none (.slice none 0 0) []) (hB : ∀ s, s ∈ mblk bp b (.slice none 0 0) none (.slice none 0 0) → A.heap.size ≤ s) (hc : Own w 5 cv c) (hcs : ∀ g, cv.ownBlock = some g → g ∉ mblk bp b (.slice none 0 0) none (.slice none 0 0)) (hlim : c.length ≤ 1000000) :
    Calls Tryz.prog 24 #[.iface 56 (.pointer (some ⟨b, 0, none⟩)), .iface 42 cv, .pointer (some ⟨o, 0, none⟩)] w fun e w' => e = .returned .nilIface ∧ MOut A b (36 :: (Lib.itoa (c.length : Int) ++ [13, 10] ++ c ++ [13, 10])) w' := by
  obtain ⟨w2, hw2⟩ : ∃ x, x = (w.alloc (.cells #[.iface 56 (.pointer (some ⟨b, 0, none⟩))] 84)).alloc (.cells #[.pointer (some ⟨o, 0, none⟩)] 57) := ⟨_, rfl⟩
  have hf2 : Fr [] w w2 := by rw [hw2]; exact ((Fr.refl [] w).alloc _).alloc _
  have hb0 : w2.heap[w.heap.size]? = some (.cells #[.iface 56 (.pointer (some ⟨b, 0, none⟩))] 84 (0, 0)) := by
    rw [hw2]; exact ((Fr.refl [] _).alloc _).blk (heap_alloc_new w _) List.not_mem_nil
  have hb1 : w2.heap[w.heap.size + 1]? = some (.cells #[.pointer (some ⟨o, 0, none⟩)] 57 (0, 0)) := by
    rw [hw2]
    have := heap_alloc_new (w.alloc (.cells #[.iface 56 (.pointer (some ⟨b, 0, none⟩))] 84)) (.cells #[.pointer (some ⟨o, 0, none⟩)] 57)
    simpa using this
  have cb0 : w2.cell? ⟨w.heap.size, 0, none⟩ = some (.iface 56 (.pointer (some ⟨b, 0, none⟩))) := cell_of_row w2 w.heap.size 0 _ 84 _ hb0
  have cb1 : w2.cell? ⟨w.heap.size + 1, 0, none⟩ = some (.pointer (some ⟨o, 0, none⟩)) := cell_of_row w2 (w.heap.size + 1) 0 _ 57 _ hb1
  have HF2 := Lib.hid hf2
  have HFA := Lib.hid (hfA.trans hf2)
  have HG2 := Lib.hid (hG.fr hf2 (fun _ h => by cases h))
  have HM2 := Lib.hid (hM.fr0 hf2)
  have HW2 := Lib.hid hw2
  obtain ⟨ca, cc, rfl⟩ := own_shape hc
  have HC := Lib.hid (m1_any (ea := ea) (B := A.heap.size) o bp b w.heap.size (w.heap.size + 1) _ none _ _ [] c w2 HG2.out HM2.out hB cb0 cb1 (hc.fr HF2.out (fun _ _ => List.not_mem_nil)) hcs (by simp; omega))
  clear hc hcs
  have HB := Lib.hid hB
  clear hw2 hf2 hb0 hb1 hfA hG hM hB
  have n78 : ∀ W : World, (Instr.typeAssert (.iface 42 (.slice ca c.length cc)) 20 78 true).run Tryz.prog W = .ok (.tuple #[.nilIface, .bool false]) W := fun W => run_typeAssert_lacksB Tryz.underlying78 (by kernel_rfl) (by kernel_rfl) _ 20 W
  have yT : ∀ W : World, (Instr.typeAssert (.iface 42 (.slice ca c.length cc)) 20 42 true).run Tryz.prog W = .ok (.tuple #[.slice ca c.length cc, .bool true]) W := fun _ => by kernel_rfl
  have hmf : ∀ (fn : Fn) (first cap : Array Value) (w : World), (Instr.makeFunc fn first cap).run Tryz.prog w = .ok (.func fn first cap) w := fun _ _ _ _ => rfl
  go_enter_defers Tryz.func24, Tryz.ntmps24
  go_upto_region 1 with fail
  rw [← HW2.out]
  go_wp2_with (go_at_call 51; refine HC.out.mono ?_; rintro e w3 ⟨rfl, hq⟩; have HQ := Lib.hid hq; clear hq)
  simp [bodyPostD, Leaves, results, Tryz.results24, go_sem]
  first
    | exact mq_out HFA.out HB.out HQ.out
    | simpa using mq_out HFA.out HB.out HQ.out
set_option maxRecDepth 100000 in
set_option maxHeartbeats 4000000 in
theorem msh_bool {ea : Addr} (is : Bool) (A : World) (o bp b : Nat) (w : World) (hfA : Fr [] A w) (hG : Gv A.heap.size ea w) (hM : Mach w o bp b (.slice none 0 0) none (.slice none 0 0) []) (hB : ∀ s, s ∈ mblk bp b (.slice none 0 0) none (.slice none 0 0) → A.heap.size ≤ s)  :
    Calls Tryz.prog 24 #[.iface 56 (.pointer (some ⟨b, 0, none⟩)), .iface 4 (.bool is), .pointer (some ⟨o, 0, none⟩)] w fun e w' => e = .returned .nilIface ∧ MOut A b ([35, bch is, 13, 10]) w' := by
  obtain ⟨w2, hw2⟩ : ∃ x, x = (w.alloc (.cells #[.iface 56 (.pointer (some ⟨b, 0, none⟩))] 84)).alloc (.cells #[.pointer (some ⟨o, 0, none⟩)] 57) := ⟨_, rfl⟩
  have hf2 : Fr [] w w2 := by rw [hw2]; exact ((Fr.refl [] w).alloc _).alloc _
  have hb0 : w2.heap[w.heap.size]? = some (.cells #[.iface 56 (.pointer (some ⟨b, 0, none⟩))] 84 (0, 0)) := by
    rw [hw2]; exact ((Fr.refl [] _).alloc _).blk (heap_alloc_new w _) List.not_mem_nil
  have hb1 : w2.heap[w.heap.size + 1]? = some (.cells #[.pointer (some ⟨o, 0, none⟩)] 57 (0, 0)) := by
    rw [hw2]
    have := heap_alloc_new (w.alloc (.cells #[.iface 56 (.pointer (some ⟨b, 0, none⟩))] 84)) (.cells #[.pointer (some ⟨o, 0, none⟩)] 57)
    simpa using this
  have cb0 : w2.cell? ⟨w.heap.size, 0, none⟩ = some (.iface 56 (.pointer (some ⟨b, 0, none⟩))) := cell_of_row w2 w.heap.size 0 _ 84 _ hb0
  have cb1 : w2.cell? ⟨w.heap.size + 1, 0, none⟩ = some (.pointer (some ⟨o, 0, none⟩)) := cell_of_row w2 (w.heap.size + 1) 0 _ 57 _ hb1
  have HF2 := Lib.hid hf2
  have HFA := Lib.hid (hfA.trans hf2)
  have HG2 := Lib.hid (hG.fr hf2 (fun _ h => by cases h))
  have HM2 := Lib.hid (hM.fr0 hf2)
  have HW2 := Lib.hid hw2
  have HC := Lib.hid (bool_any is o bp b _ none _ [] w2 HM2.out (by simp))
  have HB := Lib.hid hB
  clear hw2 hf2 hb0 hb1 hfA hG hM hB
  have n78 : ∀ W : World, (Instr.typeAssert (.iface 4 (.bool is)) 20 78 true).run Tryz.prog W = .ok (.tuple #[.nilIface, .bool false]) W := fun W => run_typeAssert_lacksB Tryz.underlying78 (by kernel_rfl) (by kernel_rfl) _ 20 W
  have n42 : ∀ W : World, (Instr.typeAssert (.iface 4 (.bool is)) 20 42 true).run Tryz.prog W = .ok (.tuple #[.slice none 0 0, .bool false]) W := fun _ => by kernel_rfl
  have n9 : ∀ W : World, (Instr.typeAssert (.iface 4 (.bool is)) 20 9 true).run Tryz.prog W = .ok (.tuple #[.string ⟨#[]⟩, .bool false]) W := fun _ => by kernel_rfl
  have n127 : ∀ W : World, (Instr.typeAssert (.iface 4 (.bool is)) 20 127 true).run Tryz.prog W = .ok (.tuple #[.slice none 0 0, .bool false]) W := fun _ => by kernel_rfl
  have yT : ∀ W : World, (Instr.typeAssert (.iface 4 (.bool is)) 20 4 true).run Tryz.prog W = .ok (.tuple #[.bool is, .bool true]) W := fun _ => by kernel_rfl
  have hmf : ∀ (fn : Fn) (first cap : Array Value) (w : World), (Instr.makeFunc fn first cap).run Tryz.prog w = .ok (.func fn first cap) w := fun _ _ _ _ => rfl
  go_enter_defers Tryz.func24, Tryz.ntmps24
  go_upto_region 1 with fail
  rw [← HW2.out]
  go_wp2_with (go_at_call 52; refine HC.out.mono ?_; rintro e w3 ⟨rfl, hq⟩; have HQ := Lib.hid hq; clear hq)
  simp [bodyPostD, Leaves, results, Tryz.results24, go_sem]
  first
    | exact mq_out HFA.out HB.out HQ.out
    | simpa using mq_out HFA.out HB.out HQ.out
set_option maxRecDepth 100000 in
set_option maxHeartbeats 4000000 in
theorem msh_float {ea : Addr} (n : Nat) (A : World) (o bp b : Nat) (w : World) (hfA : Fr [] A w) (hG : Gp A.heap.size ea w) (hM : Mach w o bp b (.slice none 0 0) none (.slice none 0 0) []) (hB : ∀ s, s ∈ mblk bp b (.slice none 0 0) none (.slice none 0 0) → A.heap.size ≤ s) (hn : n < 18446744073709551616) :
    Calls Tryz.prog 24 #[.iface 56 (.pointer (some ⟨b, 0, none⟩)), .iface 30 (.float .f64 n), .pointer (some ⟨o, 0, none⟩)] w fun e w' => e = .returned .nilIface ∧ MOut A b (44 :: (dTx n ++ [13, 10])) w' := by
  obtain ⟨w2, hw2⟩ : ∃ x, x = (w.alloc (.cells #[.iface 56 (.pointer (some ⟨b, 0, none⟩))] 84)).alloc (.cells #[.pointer (some ⟨o, 0, none⟩)] 57) := ⟨_, rfl⟩
  have hf2 : Fr [] w w2 := by rw [hw2]; exact ((Fr.refl [] w).alloc _).alloc _
  have hb0 : w2.heap[w.heap.size]? = some (.cells #[.iface 56 (.pointer (some ⟨b, 0, none⟩))] 84 (0, 0)) := by
    rw [hw2]; exact ((Fr.refl [] _).alloc _).blk (heap_alloc_new w _) List.not_mem_nil
  have hb1 : w2.heap[w.heap.size + 1]? = some (.cells #[.pointer (some ⟨o, 0, none⟩)] 57 (0, 0)) := by
    rw [hw2]
    have := heap_alloc_new (w.alloc (.cells #[.iface 56 (.pointer (some ⟨b, 0, none⟩))] 84)) (.cells #[.pointer (some ⟨o, 0, none⟩)] 57)
    simpa using this
  have cb0 : w2.cell? ⟨w.heap.size, 0, none⟩ = some (.iface 56 (.pointer (some ⟨b, 0, none⟩))) := cell_of_row w2 w.heap.size 0 _ 84 _ hb0
  have cb1 : w2.cell? ⟨w.heap.size + 1, 0, none⟩ = some (.pointer (some ⟨o, 0, none⟩)) := cell_of_row w2 (w.heap.size + 1) 0 _ 57 _ hb1
  have HF2 := Lib.hid hf2
  have HFA := Lib.hid (hfA.trans hf2)
  have HG2 := Lib.hid (hG.fr hf2 (fun _ h => by cases h))
  have HM2 := Lib.hid (hM.fr0 hf2)
  have HW2 := Lib.hid hw2
  have HC := Lib.hid (dbl_any (ea := ea) (B := A.heap.size) o bp b _ none _ n [] w2 HG2.out HM2.out hB hn (by simp))
  have HB := Lib.hid hB
  clear hw2 hf2 hb0 hb1 hfA hG hM hB
  have n78 : ∀ W : World, (Instr.typeAssert (.iface 30 (.float .f64 n)) 20 78 true).run Tryz.prog W = .ok (.tuple #[.nilIface, .bool false]) W := fun W => run_typeAssert_lacksB Tryz.underlying78 (by kernel_rfl) (by kernel_rfl) _ 20 W
  have n42 : ∀ W : World, (Instr.typeAssert (.iface 30 (.float .f64 n)) 20 42 true).run Tryz.prog W = .ok (.tuple #[.slice none 0 0, .bool false]) W := fun _ => by kernel_rfl
  have n9 : ∀ W : World, (Instr.typeAssert (.iface 30 (.float .f64 n)) 20 9 true).run Tryz.prog W = .ok (.tuple #[.string ⟨#[]⟩, .bool false]) W := fun _ => by kernel_rfl
  have n127 : ∀ W : World, (Instr.typeAssert (.iface 30 (.float .f64 n)) 20 127 true).run Tryz.prog W = .ok (.tuple #[.slice none 0 0, .bool false]) W := fun _ => by kernel_rfl
  have n4 : ∀ W : World, (Instr.typeAssert (.iface 30 (.float .f64 n)) 20 4 true).run Tryz.prog W = .ok (.tuple #[.bool false, .bool false]) W := fun _ => by kernel_rfl
  have n74 : ∀ W : World, (Instr.typeAssert (.iface 30 (.float .f64 n)) 20 74 true).run Tryz.prog W = .ok (.tuple #[.float .f32 0, .bool false]) W := fun _ => by kernel_rfl
  have yT : ∀ W : World, (Instr.typeAssert (.iface 30 (.float .f64 n)) 20 30 true).run Tryz.prog W = .ok (.tuple #[.float .f64 n, .bool true]) W := fun _ => by kernel_rfl
  have hmf : ∀ (fn : Fn) (first cap : Array Value) (w : World), (Instr.makeFunc fn first cap).run Tryz.prog w = .ok (.func fn first cap) w := fun _ _ _ _ => rfl
  go_enter_defers Tryz.func24, Tryz.ntmps24
  go_upto_region 1 with fail
  rw [← HW2.out]
  go_wp2_with (go_at_call 53; refine HC.out.mono ?_; rintro e w3 ⟨rfl, hq⟩; have HQ := Lib.hid hq; clear hq)
  simp [bodyPostD, Leaves, results, Tryz.results24, go_sem]
  first
    | exact mq_out HFA.out HB.out HQ.out
    | simpa using mq_out HFA.out HB.out HQ.out
set_option maxRecDepth 100000 in
set_option maxHeartbeats 4000000 in
theorem msh_nil {ea : Addr}  (A : World) (o bp b : Nat) (w : World) (hfA : Fr [] A w) (hG : Gv A.heap.size ea w) (hM : Mach w o bp b (.slice none 0 0) none (.slice none 0 0) []) (hB : ∀ s, s ∈ mblk bp b (.slice none 0 0) none (.slice none 0 0) → A.heap.size ≤ s)  :
    Calls Tryz.prog 24 #[.iface 56 (.pointer (some ⟨b, 0, none⟩)), .nilIface, .pointer (some ⟨o, 0, none⟩)] w fun e w' => e = .returned .nilIface ∧ MOut A b ([95, 13, 10]) w' := by
  obtain ⟨w2, hw2⟩ : ∃ x, x = (w.alloc (.cells #[.iface 56 (.pointer (some ⟨b, 0, none⟩))] 84)).alloc (.cells #[.pointer (some ⟨o, 0, none⟩)] 57) := ⟨_, rfl⟩
  have hf2 : Fr [] w w2 := by rw [hw2]; exact ((Fr.refl [] w).alloc _).alloc _
  have hb0 : w2.heap[w.heap.size]? = some (.cells #[.iface 56 (.pointer (some ⟨b, 0, none⟩))] 84 (0, 0)) := by
    rw [hw2]; exact ((Fr.refl [] _).alloc _).blk (heap_alloc_new w _) List.not_mem_nil
  have hb1 : w2.heap[w.heap.size + 1]? = some (.cells #[.pointer (some ⟨o, 0, none⟩)] 57 (0, 0)) := by
    rw [hw2]
    have := heap_alloc_new (w.alloc (.cells #[.iface 56 (.pointer (some ⟨b, 0, none⟩))] 84)) (.cells #[.pointer (some ⟨o, 0, none⟩)] 57)
    simpa using this
  have cb0 : w2.cell? ⟨w.heap.size, 0, none⟩ = some (.iface 56 (.pointer (some ⟨b, 0, none⟩))) := cell_of_row w2 w.heap.size 0 _ 84 _ hb0
  have cb1 : w2.cell? ⟨w.heap.size + 1, 0, none⟩ = some (.pointer (some ⟨o, 0, none⟩)) := cell_of_row w2 (w.heap.size + 1) 0 _ 57 _ hb1
  have HF2 := Lib.hid hf2
  have HFA := Lib.hid (hfA.trans hf2)
  have HG2 := Lib.hid (hG.fr hf2 (fun _ h => by cases h))
  have HM2 := Lib.hid (hM.fr0 hf2)
  have HW2 := Lib.hid hw2
  have HC := Lib.hid (nul_any o bp b _ none _ [] w2 HM2.out (by simp))
  have HB := Lib.hid hB
  clear hw2 hf2 hb0 hb1 hfA hG hM hB
  have n78 : ∀ W : World, (Instr.typeAssert .nilIface 20 78 true).run Tryz.prog W = .ok (.tuple #[.nilIface, .bool false]) W := fun _ => by kernel_rfl
  have n42 : ∀ W : World, (Instr.typeAssert .nilIface 20 42 true).run Tryz.prog W = .ok (.tuple #[.slice none 0 0, .bool false]) W := fun _ => by kernel_rfl
  have n9 : ∀ W : World, (Instr.typeAssert .nilIface 20 9 true).run Tryz.prog W = .ok (.tuple #[.string ⟨#[]⟩, .bool false]) W := fun _ => by kernel_rfl
  have n127 : ∀ W : World, (Instr.typeAssert .nilIface 20 127 true).run Tryz.prog W = .ok (.tuple #[.slice none 0 0, .bool false]) W := fun _ => by kernel_rfl
  have n4 : ∀ W : World, (Instr.typeAssert .nilIface 20 4 true).run Tryz.prog W = .ok (.tuple #[.bool false, .bool false]) W := fun _ => by kernel_rfl
  have n74 : ∀ W : World, (Instr.typeAssert .nilIface 20 74 true).run Tryz.prog W = .ok (.tuple #[.float .f32 0, .bool false]) W := fun _ => by kernel_rfl
  have n30 : ∀ W : World, (Instr.typeAssert .nilIface 20 30 true).run Tryz.prog W = .ok (.tuple #[.float .f64 0, .bool false]) W := fun _ => by kernel_rfl
  have hmf : ∀ (fn : Fn) (first cap : Array Value) (w : World), (Instr.makeFunc fn first cap).run Tryz.prog w = .ok (.func fn first cap) w := fun _ _ _ _ => rfl
  go_enter_defers Tryz.func24, Tryz.ntmps24
  go_upto_region 1 with fail
  rw [← HW2.out]
  go_wp2_with (go_at_call 54; refine HC.out.mono ?_; rintro e w3 ⟨rfl, hq⟩; have HQ := Lib.hid hq; clear hq)
  simp [bodyPostD, Leaves, results, Tryz.results24, go_sem]
  first
    | exact mq_out HFA.out HB.out HQ.out
    | simpa using mq_out HFA.out HB.out HQ.out
set_option maxRecDepth 100000 in
set_option maxHeartbeats 4000000 in
theorem msh_int {ea : Addr} (n : Int) (A : World) (o bp b : Nat) (w : World) (hfA : Fr [] A w) (hG : Gv A.heap.size ea w) (hM : Mach w o bp b (.slice none 0 0) none (.slice none 0 0) []) (hB : ∀ s, s ∈ mblk bp b (.slice none 0 0) none (.slice none 0 0) → A.heap.size ≤ s) (h0 : -9223372036854775808 ≤ n) (h1 : n ≤ 9223372036854775807) :
    Calls Tryz.prog 24 #[.iface 56 (.pointer (some ⟨b, 0, none⟩)), .iface 3 (.int .i64 n), .pointer (some ⟨o, 0, none⟩)] w fun e w' => e = .returned .nilIface ∧ MOut A b (58 :: (Lib.itoa n ++ [13, 10])) w' := by
  obtain ⟨w2, hw2⟩ : ∃ x, x = (w.alloc (.cells #[.iface 56 (.pointer (some ⟨b, 0, none⟩))] 84)).alloc (.cells #[.pointer (some ⟨o, 0, none⟩)] 57) := ⟨_, rfl⟩
  have hf2 : Fr [] w w2 := by rw [hw2]; exact ((Fr.refl [] w).alloc _).alloc _
  have hb0 : w2.heap[w.heap.size]? = some (.cells #[.iface 56 (.pointer (some ⟨b, 0, none⟩))] 84 (0, 0)) := by
    rw [hw2]; exact ((Fr.refl [] _).alloc _).blk (heap_alloc_new w _) List.not_mem_nil
  have hb1 : w2.heap[w.heap.size + 1]? = some (.cells #[.pointer (some ⟨o, 0, none⟩)] 57 (0, 0)) := by
    rw [hw2]
    have := heap_alloc_new (w.alloc (.cells #[.iface 56 (.pointer (some ⟨b, 0, none⟩))] 84)) (.cells #[.pointer (some ⟨o, 0, none⟩)] 57)
    simpa using this
  have cb0 : w2.cell? ⟨w.heap.size, 0, none⟩ = some (.iface 56 (.pointer (some ⟨b, 0, none⟩))) := cell_of_row w2 w.heap.size 0 _ 84 _ hb0
  have cb1 : w2.cell? ⟨w.heap.size + 1, 0, none⟩ = some (.pointer (some ⟨o, 0, none⟩)) := cell_of_row w2 (w.heap.size + 1) 0 _ 57 _ hb1
  have HF2 := Lib.hid hf2
  have HFA := Lib.hid (hfA.trans hf2)
  have HG2 := Lib.hid (hG.fr hf2 (fun _ h => by cases h))
  have HM2 := Lib.hid (hM.fr0 hf2)
  have HW2 := Lib.hid hw2
  have HC := Lib.hid (num_any (ea := ea) (B := A.heap.size) o bp b _ none _ n (Lib.itoa n) [] w2 HG2.out HM2.out hB h0 h1 rfl (Lib.itoa_length_le n h0 h1) (by simp))
  have HB := Lib.hid hB
  clear hw2 hf2 hb0 hb1 hfA hG hM hB
  have n78 : ∀ W : World, (Instr.typeAssert (.iface 3 (.int .i64 n)) 20 78 true).run Tryz.prog W = .ok (.tuple #[.nilIface, .bool false]) W := fun W => run_typeAssert_lacksB Tryz.underlying78 (by kernel_rfl) (by kernel_rfl) _ 20 W
  have n42 : ∀ W : World, (Instr.typeAssert (.iface 3 (.int .i64 n)) 20 42 true).run Tryz.prog W = .ok (.tuple #[.slice none 0 0, .bool false]) W := fun _ => by kernel_rfl
  have n9 : ∀ W : World, (Instr.typeAssert (.iface 3 (.int .i64 n)) 20 9 true).run Tryz.prog W = .ok (.tuple #[.string ⟨#[]⟩, .bool false]) W := fun _ => by kernel_rfl
  have n127 : ∀ W : World, (Instr.typeAssert (.iface 3 (.int .i64 n)) 20 127 true).run Tryz.prog W = .ok (.tuple #[.slice none 0 0, .bool false]) W := fun _ => by kernel_rfl
  have n4 : ∀ W : World, (Instr.typeAssert (.iface 3 (.int .i64 n)) 20 4 true).run Tryz.prog W = .ok (.tuple #[.bool false, .bool false]) W := fun _ => by kernel_rfl
  have n74 : ∀ W : World, (Instr.typeAssert (.iface 3 (.int .i64 n)) 20 74 true).run Tryz.prog W = .ok (.tuple #[.float .f32 0, .bool false]) W := fun _ => by kernel_rfl
  have n30 : ∀ W : World, (Instr.typeAssert (.iface 3 (.int .i64 n)) 20 30 true).run Tryz.prog W = .ok (.tuple #[.float .f64 0, .bool false]) W := fun _ => by kernel_rfl
  have n43 : ∀ W : World, (Instr.typeAssert (.iface 3 (.int .i64 n)) 20 43 true).run Tryz.prog W = .ok (.tuple #[.int .i8 0, .bool false]) W := fun _ => by kernel_rfl
  have n134 : ∀ W : World, (Instr.typeAssert (.iface 3 (.int .i64 n)) 20 134 true).run Tryz.prog W = .ok (.tuple #[.int .i16 0, .bool false]) W := fun _ => by kernel_rfl
  have n21 : ∀ W : World, (Instr.typeAssert (.iface 3 (.int .i64 n)) 20 21 true).run Tryz.prog W = .ok (.tuple #[.int .i32 0, .bool false]) W := fun _ => by kernel_rfl
  have n2 : ∀ W : World, (Instr.typeAssert (.iface 3 (.int .i64 n)) 20 2 true).run Tryz.prog W = .ok (.tuple #[.int .i64 0, .bool false]) W := fun _ => by kernel_rfl
  have n135 : ∀ W : World, (Instr.typeAssert (.iface 3 (.int .i64 n)) 20 135 true).run Tryz.prog W = .ok (.tuple #[.int .u64 0, .bool false]) W := fun _ => by kernel_rfl
  have n5 : ∀ W : World, (Instr.typeAssert (.iface 3 (.int .i64 n)) 20 5 true).run Tryz.prog W = .ok (.tuple #[.int .u8 0, .bool false]) W := fun _ => by kernel_rfl
  have n136 : ∀ W : World, (Instr.typeAssert (.iface 3 (.int .i64 n)) 20 136 true).run Tryz.prog W = .ok (.tuple #[.int .u16 0, .bool false]) W := fun _ => by kernel_rfl
  have n137 : ∀ W : World, (Instr.typeAssert (.iface 3 (.int .i64 n)) 20 137 true).run Tryz.prog W = .ok (.tuple #[.int .u32 0, .bool false]) W := fun _ => by kernel_rfl
  have n29 : ∀ W : World, (Instr.typeAssert (.iface 3 (.int .i64 n)) 20 29 true).run Tryz.prog W = .ok (.tuple #[.int .u64 0, .bool false]) W := fun _ => by kernel_rfl
  have yT : ∀ W : World, (Instr.typeAssert (.iface 3 (.int .i64 n)) 20 3 true).run Tryz.prog W = .ok (.tuple #[.int .i64 n, .bool true]) W := fun _ => by kernel_rfl
  have hmf : ∀ (fn : Fn) (first cap : Array Value) (w : World), (Instr.makeFunc fn first cap).run Tryz.prog w = .ok (.func fn first cap) w := fun _ _ _ _ => rfl
  go_enter_defers Tryz.func24, Tryz.ntmps24
  go_upto_region 1 with fail
  rw [← HW2.out]
  go_wp2_with (first
    | (go_at_call 55; refine (anyInt_any n _).mono ?_; rintro e w3 ⟨rfl, rfl⟩)
    | (go_at_call 56; refine HC.out.mono ?_; rintro e w3 ⟨rfl, hq⟩; have HQ := Lib.hid hq; clear hq))
  simp [bodyPostD, Leaves, results, Tryz.results24, go_sem]
  first
    | exact mq_out HFA.out HB.out HQ.out
    | simpa using mq_out HFA.out HB.out HQ.out
end Go.Proofs.YtpkkgngpjeoffaaGreatDoor
