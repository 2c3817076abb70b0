/- PROVED HERE: resp3.Marshal (func 24) of a string and of an error: the bytes go behind what the buffer holds. CONDITIONS: those ahead of each theorem. -/
import Derived.Test.YtpkkgngpjeoffaaGreatDoorMsT
import Derived.Test.YtpkkgngpjeoffaaGreatDoorAnyT
import Derived.Test.YtpkkgngpjeoffaaGreatDoorNumT
import Derived.Test.YtpkkgngpjeoffaaGreatDoorBerT
import Derived.Test.YtpkkgngpjeoffaaGreatDoorBloT
import Derived.Test.YtpkkgngpjeoffaaGreatDoorNulT
import Derived.Test.YtpkkgngpjeoffaaGreatDoorDblT
import Derived.Stop.Asserts
namespace Go.Proofs.YtpkkgngpjeoffaaGreatDoor
open Go.RowKit


def GetQ2 (w : World) (bp : Nat) (pv : Value) (e : Ending) (w' : World) : Prop := Fr [bp] w w' ∧ ∃ q v pv', e = .returned (.pointer (some ⟨q, 0, none⟩)) ∧ w'.heap[q]? = some (.cells #[v] 42 (0, 0)) ∧ Own w' 5 v [] ∧ PoolS w' bp pv' none ∧ pv'.ownBlock = pv.ownBlock ∧ (w.heap.size ≤ q ∧ ∀ g, v.ownBlock = some g → w.heap.size ≤ g) ∧ ∃ g, v.ownBlock = some g
set_option maxRecDepth 100000 in
set_option maxHeartbeats 1000000 in
/-- get, of an empty pool: a new slice. -/
theorem get_none2 (bp : Nat) (pv : Value) (w : World) (h : PoolS w bp pv none) :
    Calls Tryz.prog 39 #[.pointer (some ⟨bp, 0, none⟩)] w (GetQ2 w bp pv) := by
  obtain ⟨⟨u, hb⟩, hO⟩ := h
  obtain ⟨a, c, rfl⟩ := hO.shape
  have c2 := cell_of_row w bp 2 _ 174 _ hb
  have HB := Lib.hid hb
  have HO := Lib.hid hO
  clear hb hO
  go_enter Tryz.func39, Tryz.ntmps39
  go_wp2_with (first
    | (at_make; refine wpMake _ rfl (.const (.int .i64 0)) (.const (.int .i64 32)) rfl _ _ 0 32 rfl rfl rfl rfl (by decide) (by decide) ?_; intro w1 hr1 hf1; have HR1 := Lib.hid hr1; have HF1 := Lib.hid hf1; clear hr1 hf1))
  go_ret
  have hfa : Fr [] w (w1.alloc (.cells #[.slice (some ⟨w.heap.size, 0, none⟩) 0 32] 42)) := HF1.out.alloc _
  refine ⟨hfa.sub (by simp), w1.heap.size, .slice (some ⟨w.heap.size, 0, none⟩) 0 32, .slice a 0 c, rfl, heap_alloc_new _ _, ?_, ⟨⟨u, hfa.blk HB.out List.not_mem_nil⟩, HO.out.fr hfa (fun _ _ => List.not_mem_nil)⟩, rfl, ⟨HF1.out.size, fun g hg => by simp [Value.ownBlock] at hg; omega⟩, _, rfl⟩
  exact .inr ⟨_, _, rfl, _, _, ((Fr.refl [] w1).alloc _).blk HR1.out List.not_mem_nil, fun j _ h => by simp at h, by rw [zbytes_size]; exact Nat.le_refl _, by simp, by decide, by simp [bvs]⟩
set_option maxRecDepth 100000 in
set_option maxHeartbeats 4000000 in
theorem msh_err {ea : Addr} (s : ByteArray) (hs : s.size ≤ 1000000) (A : World) (o bp b : Nat) (w : World) (hfA : Fr [] A w) (hG : Gv A.heap.size ea w) (hM : Mach w o bp b (.slice none 0 0) none (.slice none 0 0) []) (hB : ∀ s, s ∈ mblk bp b (.slice none 0 0) none (.slice none 0 0) → A.heap.size ≤ s) (g : Nat) (hg : w.heap[g]? = some (.cells #[.string s] 201 (0, 0))) :
    Calls Tryz.prog 24 #[.iface 56 (.pointer (some ⟨b, 0, none⟩)), .iface 199 (.pointer (some ⟨g, 0, none⟩)), .pointer (some ⟨o, 0, none⟩)] w fun e w' => e = .returned .nilIface ∧ MOut A b (33 :: (Lib.itoa (s.data.toList.length : Int) ++ [13, 10] ++ s.data.toList ++ [13, 10])) w' := by
  obtain ⟨w2, hw2⟩ : ∃ x, x = (w.alloc (.cells #[.iface 56 (.pointer (some ⟨b, 0, none⟩))] 84)).alloc (.cells #[.pointer (some ⟨o, 0, none⟩)] 57) := ⟨_, rfl⟩
  have hf2 : Fr [] w w2 := by rw [hw2]; exact ((Fr.refl [] w).alloc _).alloc _
  have hb0 : w2.heap[w.heap.size]? = some (.cells #[.iface 56 (.pointer (some ⟨b, 0, none⟩))] 84 (0, 0)) := by
    rw [hw2]; exact ((Fr.refl [] _).alloc _).blk (heap_alloc_new w _) List.not_mem_nil
  have hb1 : w2.heap[w.heap.size + 1]? = some (.cells #[.pointer (some ⟨o, 0, none⟩)] 57 (0, 0)) := by
    rw [hw2]
    have := heap_alloc_new (w.alloc (.cells #[.iface 56 (.pointer (some ⟨b, 0, none⟩))] 84)) (.cells #[.pointer (some ⟨o, 0, none⟩)] 57)
    simpa using this
  have cb0 : w2.cell? ⟨w.heap.size, 0, none⟩ = some (.iface 56 (.pointer (some ⟨b, 0, none⟩))) := cell_of_row w2 w.heap.size 0 _ 84 _ hb0
  have cb1 : w2.cell? ⟨w.heap.size + 1, 0, none⟩ = some (.pointer (some ⟨o, 0, none⟩)) := cell_of_row w2 (w.heap.size + 1) 0 _ 57 _ hb1
  have HF2 := Lib.hid hf2
  have HFA := Lib.hid (hfA.trans hf2)
  have HG2 := Lib.hid (hG.fr hf2 (fun _ h => by cases h))
  have HM2 := Lib.hid (hM.fr0 hf2)
  have HW2 := Lib.hid hw2
  have HB := Lib.hid hB
  have HGR := Lib.hid (hf2.blk hg List.not_mem_nil)
  have hbl : b < w2.heap.size := by
    obtain ⟨⟨lr, h⟩, _⟩ := (hM.fr0 hf2).buf
    exact (Array.getElem?_eq_some_iff.1 h).1
  have hbpl : bp < w2.heap.size := by
    obtain ⟨⟨u, h⟩, _⟩ := (hM.fr0 hf2).pool
    exact (Array.getElem?_eq_some_iff.1 h).1
  have HC := Lib.hid (fun (W W' : World) (hF : Fr [] w2 W) (hF' : Fr [] W W') (cv : Value) (hO : Own W' 5 cv s.data.toList) (hcv : ∀ g, cv.ownBlock = some g → W.heap.size ≤ g) =>
    berr_any (ea := ea) (B := A.heap.size) o bp b _ none _ cv (Lib.itoa (s.data.toList.length : Int)) [] s.data.toList W' ((HG2.out.fr hF (fun _ h => by cases h)).fr hF' (fun _ h => by cases h)) ((HM2.out.fr0 hF).fr0 hF') hB hO
      (fun g hg hm => by
        have h1 := hcv g hg
        have h2 := hF.size
        simp [mblk, Value.ownBlock] at hm
        omega) rfl (Lib.itoa_length_le (s.data.toList.length : Int) (by omega) (by simp; have : s.data.size = s.size := rfl; omega)) (by simp; have : s.data.size = s.size := rfl; omega))
  have cx0 : ∀ x, (w2.alloc x).cell? ⟨w.heap.size, 0, none⟩ = some (.iface 56 (.pointer (some ⟨b, 0, none⟩))) := fun x => cell_of_row (w2.alloc x) w.heap.size 0 _ 84 _ (((Fr.refl [] w2).alloc x).blk hb0 List.not_mem_nil)
  have cx1 : ∀ x, (w2.alloc x).cell? ⟨w.heap.size + 1, 0, none⟩ = some (.pointer (some ⟨o, 0, none⟩)) := fun x => cell_of_row (w2.alloc x) (w.heap.size + 1) 0 _ 57 _ (((Fr.refl [] w2).alloc x).blk hb1 List.not_mem_nil)
  clear hw2 hf2 hb0 hb1 hfA hG hM hB hg hbl hbpl
  have n78 : ∀ W : World, (Instr.typeAssert (.iface 199 (.pointer (some ⟨g, 0, none⟩))) 20 78 true).run Tryz.prog W = .ok (.tuple #[.nilIface, .bool false]) W := fun W => run_typeAssert_lacksB Tryz.underlying78 (by kernel_rfl) (by kernel_rfl) _ 20 W
  have n42 : ∀ W : World, (Instr.typeAssert (.iface 199 (.pointer (some ⟨g, 0, none⟩))) 20 42 true).run Tryz.prog W = .ok (.tuple #[.slice none 0 0, .bool false]) W := fun _ => by kernel_rfl
  have n9 : ∀ W : World, (Instr.typeAssert (.iface 199 (.pointer (some ⟨g, 0, none⟩))) 20 9 true).run Tryz.prog W = .ok (.tuple #[.string ⟨#[]⟩, .bool false]) W := fun _ => by kernel_rfl
  have n127 : ∀ W : World, (Instr.typeAssert (.iface 199 (.pointer (some ⟨g, 0, none⟩))) 20 127 true).run Tryz.prog W = .ok (.tuple #[.slice none 0 0, .bool false]) W := fun _ => by kernel_rfl
  have n4 : ∀ W : World, (Instr.typeAssert (.iface 199 (.pointer (some ⟨g, 0, none⟩))) 20 4 true).run Tryz.prog W = .ok (.tuple #[.bool false, .bool false]) W := fun _ => by kernel_rfl
  have n74 : ∀ W : World, (Instr.typeAssert (.iface 199 (.pointer (some ⟨g, 0, none⟩))) 20 74 true).run Tryz.prog W = .ok (.tuple #[.float .f32 0, .bool false]) W := fun _ => by kernel_rfl
  have n30 : ∀ W : World, (Instr.typeAssert (.iface 199 (.pointer (some ⟨g, 0, none⟩))) 20 30 true).run Tryz.prog W = .ok (.tuple #[.float .f64 0, .bool false]) W := fun _ => by kernel_rfl
  have n3 : ∀ W : World, (Instr.typeAssert (.iface 199 (.pointer (some ⟨g, 0, none⟩))) 20 3 true).run Tryz.prog W = .ok (.tuple #[.int .i64 0, .bool false]) W := fun _ => by kernel_rfl
  have n43 : ∀ W : World, (Instr.typeAssert (.iface 199 (.pointer (some ⟨g, 0, none⟩))) 20 43 true).run Tryz.prog W = .ok (.tuple #[.int .i8 0, .bool false]) W := fun _ => by kernel_rfl
  have n134 : ∀ W : World, (Instr.typeAssert (.iface 199 (.pointer (some ⟨g, 0, none⟩))) 20 134 true).run Tryz.prog W = .ok (.tuple #[.int .i16 0, .bool false]) W := fun _ => by kernel_rfl
  have n21 : ∀ W : World, (Instr.typeAssert (.iface 199 (.pointer (some ⟨g, 0, none⟩))) 20 21 true).run Tryz.prog W = .ok (.tuple #[.int .i32 0, .bool false]) W := fun _ => by kernel_rfl
  have n2 : ∀ W : World, (Instr.typeAssert (.iface 199 (.pointer (some ⟨g, 0, none⟩))) 20 2 true).run Tryz.prog W = .ok (.tuple #[.int .i64 0, .bool false]) W := fun _ => by kernel_rfl
  have n135 : ∀ W : World, (Instr.typeAssert (.iface 199 (.pointer (some ⟨g, 0, none⟩))) 20 135 true).run Tryz.prog W = .ok (.tuple #[.int .u64 0, .bool false]) W := fun _ => by kernel_rfl
  have n5 : ∀ W : World, (Instr.typeAssert (.iface 199 (.pointer (some ⟨g, 0, none⟩))) 20 5 true).run Tryz.prog W = .ok (.tuple #[.int .u8 0, .bool false]) W := fun _ => by kernel_rfl
  have n136 : ∀ W : World, (Instr.typeAssert (.iface 199 (.pointer (some ⟨g, 0, none⟩))) 20 136 true).run Tryz.prog W = .ok (.tuple #[.int .u16 0, .bool false]) W := fun _ => by kernel_rfl
  have n137 : ∀ W : World, (Instr.typeAssert (.iface 199 (.pointer (some ⟨g, 0, none⟩))) 20 137 true).run Tryz.prog W = .ok (.tuple #[.int .u32 0, .bool false]) W := fun _ => by kernel_rfl
  have n29 : ∀ W : World, (Instr.typeAssert (.iface 199 (.pointer (some ⟨g, 0, none⟩))) 20 29 true).run Tryz.prog W = .ok (.tuple #[.int .u64 0, .bool false]) W := fun _ => by kernel_rfl
  have y48 : ∀ W : World, (Instr.typeAssert (.iface 199 (.pointer (some ⟨g, 0, none⟩))) 20 48 true).run Tryz.prog W = .ok (.tuple #[.iface 199 (.pointer (some ⟨g, 0, none⟩)), .bool true]) W := fun W => run_typeAssert_hasB Tryz.underlying48 (by kernel_rfl) _ 20 W
  have hmf : ∀ (fn : Fn) (first cap : Array Value) (w : World), (Instr.makeFunc fn first cap).run Tryz.prog w = .ok (.func fn first cap) w := fun _ _ _ _ => rfl
  have hme : ∀ W : World, (method 487 199 (.pointer (some ⟨g, 0, none⟩)) "Error").run Tryz.prog W = .ok (244, .pointer (some ⟨g, 0, none⟩)) W := fun _ => by kernel_rfl
  have hcv := fun W : World => run_bytes_of_string (P := Tryz.prog) W 9 42 5 s Tryz.underlying9 u42 Tryz.underlying5
  go_enter_defers Tryz.func24, Tryz.ntmps24
  go_upto_region 1 with fail
  rw [← HW2.out]
  go_upto_region 39 with fail
  go_cut [6] from 6 to 178 (fun x6 wx => x6 = .nilIface ∧ Hid (MOut A b (33 :: (Lib.itoa (s.data.toList.length : Int) ++ [13, 10] ++ s.data.toList ++ [13, 10])) wx))
  case first =>
    refine wp_region_noPanic ?_
    go_region_law (first
      | (go_simp; go_at_call 244; refine (errText_any g s _ (cell_of_row _ g 0 _ 201 _ (by exact HGR.out))).mono ?_; rintro e w3 ⟨rfl, rfl⟩)
      | (go_simp; go_at_call 57; refine (HC.out _ _ (Fr.refl [] w2).drew (((Fr.refl [] _).drew).alloc _) _ (own_bytes _ s hs) (fun k hk => by simp [Value.ownBlock] at hk; subst hk; exact Nat.le_refl _)).mono ?_; rintro e w4 ⟨rfl, hq⟩; have HQ := Lib.hid (mq_out (HFA.out.trans ((((Fr.refl [] w2).drew).drew).alloc _)) HB.out hq); clear hq))
    all_goals
      refine NoPanic.normal ?_
      go_wp2_with fail
      go_meet
      exact ⟨rfl, HQ⟩
  obtain ⟨rfl, HQ⟩ := hcut
  go_wp2_with fail
  simp [bodyPostD, Leaves, results, Tryz.results24, go_sem]
  simpa using HQ.out
set_option maxRecDepth 100000 in
set_option maxHeartbeats 4000000 in
theorem msh_str {ea : Addr} (s : ByteArray) (hs : s.size ≤ 1000000) (A : World) (o bp b : Nat) (w : World) (hfA : Fr [] A w) (hG : Gv A.heap.size ea w) (hM : Mach w o bp b (.slice none 0 0) none (.slice none 0 0) []) (hB : ∀ s, s ∈ mblk bp b (.slice none 0 0) none (.slice none 0 0) → A.heap.size ≤ s) :
    Calls Tryz.prog 24 #[.iface 56 (.pointer (some ⟨b, 0, none⟩)), .iface 9 (.string s), .pointer (some ⟨o, 0, none⟩)] w fun e w' => e = .returned .nilIface ∧ MOut A b (36 :: (Lib.itoa (s.data.toList.length : Int) ++ [13, 10] ++ s.data.toList ++ [13, 10])) w' := by
  obtain ⟨w2, hw2⟩ : ∃ x, x = (w.alloc (.cells #[.iface 56 (.pointer (some ⟨b, 0, none⟩))] 84)).alloc (.cells #[.pointer (some ⟨o, 0, none⟩)] 57) := ⟨_, rfl⟩
  have hf2 : Fr [] w w2 := by rw [hw2]; exact ((Fr.refl [] w).alloc _).alloc _
  have hb0 : w2.heap[w.heap.size]? = some (.cells #[.iface 56 (.pointer (some ⟨b, 0, none⟩))] 84 (0, 0)) := by
    rw [hw2]; exact ((Fr.refl [] _).alloc _).blk (heap_alloc_new w _) List.not_mem_nil
  have hb1 : w2.heap[w.heap.size + 1]? = some (.cells #[.pointer (some ⟨o, 0, none⟩)] 57 (0, 0)) := by
    rw [hw2]
    have := heap_alloc_new (w.alloc (.cells #[.iface 56 (.pointer (some ⟨b, 0, none⟩))] 84)) (.cells #[.pointer (some ⟨o, 0, none⟩)] 57)
    simpa using this
  have cb0 : w2.cell? ⟨w.heap.size, 0, none⟩ = some (.iface 56 (.pointer (some ⟨b, 0, none⟩))) := cell_of_row w2 w.heap.size 0 _ 84 _ hb0
  have cb1 : w2.cell? ⟨w.heap.size + 1, 0, none⟩ = some (.pointer (some ⟨o, 0, none⟩)) := cell_of_row w2 (w.heap.size + 1) 0 _ 57 _ hb1
  have HF2 := Lib.hid hf2
  have HFA := Lib.hid (hfA.trans hf2)
  have HG2 := Lib.hid (hG.fr hf2 (fun _ h => by cases h))
  have HM2 := Lib.hid (hM.fr0 hf2)
  have HW2 := Lib.hid hw2
  have HB := Lib.hid hB
  clear hw2 hf2 hfA hG hM hB
  have n78 : ∀ W : World, (Instr.typeAssert (.iface 9 (.string s)) 20 78 true).run Tryz.prog W = .ok (.tuple #[.nilIface, .bool false]) W := fun W => run_typeAssert_lacksB Tryz.underlying78 (by kernel_rfl) (by kernel_rfl) _ 20 W
  have n42 : ∀ W : World, (Instr.typeAssert (.iface 9 (.string s)) 20 42 true).run Tryz.prog W = .ok (.tuple #[.slice none 0 0, .bool false]) W := fun _ => by kernel_rfl
  have y9 : ∀ W : World, (Instr.typeAssert (.iface 9 (.string s)) 20 9 true).run Tryz.prog W = .ok (.tuple #[.string s, .bool true]) W := fun _ => by kernel_rfl
  have hmf : ∀ (fn : Fn) (first cap : Array Value) (w : World), (Instr.makeFunc fn first cap).run Tryz.prog w = .ok (.func fn first cap) w := fun _ _ _ _ => rfl
  obtain ⟨⟨c2, c3, c4, hOp⟩, hPl, hBf, hAp⟩ := id HM2.out
  have p0 : w2.cell? ⟨o, 0, none⟩ = some (.func (.func 39) #[.pointer (some ⟨bp, 0, none⟩)] #[]) := cell_of_row w2 o 0 _ 94 _ hOp
  have HOP := Lib.hid hOp
  have HPL := Lib.hid hPl
  have HBF := Lib.hid hBf
  have HX0 := Lib.hid hb0
  have HX1 := Lib.hid hb1
  have HGET := Lib.hid (get_none2 bp _ w2 hPl)
  clear hOp hPl hBf hAp hb0 hb1
  go_enter_defers Tryz.func24, Tryz.ntmps24
  go_upto_region 1 with fail
  rw [← HW2.out]
  go_upto_region 12 with (go_at_call 39; refine HGET.out.mono ?_; rintro e w3 ⟨hf3, q, v, pv', rfl, hq3, hv3, hp3, hpb3, hfr3, hvo3⟩; have HF3 := Lib.hid hf3; have HQ3 := Lib.hid hq3; have HV3 := Lib.hid hv3; have HP3 := Lib.hid hp3; have HPB3 := Lib.hid hpb3; have HFR3 := Lib.hid hfr3; have HVO3 := Lib.hid hvo3; clear hf3 hq3 hv3 hp3 hpb3 hfr3 hvo3)
  have hbpo : bp ≠ o := by
    obtain ⟨u, hu⟩ := HPL.out.1
    exact ne_tag hu HOP.out (by decide)
  have hOp3 := HF3.out.blk HOP.out (by simp; exact fun e => hbpo e.symm)
  have p1 := cell_of_row w3 o 1 _ 94 _ hOp3
  have hbp84 : w.heap.size ≠ bp := by
    obtain ⟨u, hu⟩ := HPL.out.1
    exact ne_tag HX0.out hu (by decide)
  have hbp57 : w.heap.size + 1 ≠ bp := by
    obtain ⟨u, hu⟩ := HPL.out.1
    exact ne_tag HX1.out hu (by decide)
  have hx0 := HF3.out.blk HX0.out (by simpa using hbp84)
  have hx1 := HF3.out.blk HX1.out (by simpa using hbp57)
  have HX03 := Lib.hid hx0
  have HX13 := Lib.hid hx1
  have HOP3 := Lib.hid hOp3
  have cb1 := cell_of_row w3 (w.heap.size + 1) 0 _ 57 _ hx1
  obtain ⟨va, vc, hvv⟩ := own_shape HV3.out
  subst hvv
  have q0 := cell_of_row w3 q 0 _ 42 _ HQ3.out
  have HS3 : Hid (Sc w3 w3 q (.slice va (List.length ([] : List UInt8)) vc) (.slice va (List.length ([] : List UInt8)) vc) []) := Lib.hid ⟨Fr.refl _ _, HQ3.out, HV3.out, .inl rfl⟩
  clear hbpo hOp3 hbp84 hbp57 hx0 hx1
  have hlim : s.data.toList.length ≤ 1000000 := by simp; have : s.data.size = s.size := rfl; omega
  have HLIM := Lib.hid hlim
  clear hlim
  go_upto_region 14 with (at_builtin; refine wpAppS w3 (o := ⟨some 60, _, _, _, _, _⟩) rfl (.tmp 58) (.tmp 59) 9 rfl (.slice va (List.length ([] : List UInt8)) vc) [] s.data.toList _ rfl rfl HV3.out (srcStr _ s) (by have := HLIM.out; simp only [List.length_nil]; omega) ?_; intro vz wz hoz hsz; obtain ⟨az, cz, rfl⟩ := own_shape hoz; have HRz := Lib.hid (hsz.1.blk HQ3.out (fun hm => HS3.out.ne (by simpa using hm))); have rz := cell_of_row wz q 0 _ 42 _ HRz.out; have fz := frozen_of_row wz q 0 _ 42 HRz.out; have HOz := Lib.hid hoz; have HTz := Lib.hid hsz; clear hoz hsz)
  have hh := HS3.out.app HTz.out HOz.out
  have els : ([] ++ s.data.toList).length = s.size := by rw [List.nil_append, ← Lib.size_eq]
  rw [els, List.nil_append] at hh
  obtain ⟨w4, hw4⟩ : ∃ x, x = wz.setCell ⟨q, 0, none⟩ (.slice az s.size cz) := ⟨_, rfl⟩
  rw [← hw4] at hh ⊢
  obtain ⟨V, hV⟩ : ∃ V, V = Value.slice va (List.length ([] : List UInt8)) vc := ⟨_, rfl⟩
  rw [← hV] at hh HV3 HFR3 HVO3
  have HS4 := Lib.hid hh
  clear hh hw4 hV rz fz q0 cb0 cb1 p1
  have hsc := fun {k : Nat} {c : Array Value} {t : TypeId} {x : Nat × Nat} (hk : w3.heap[k]? = some (.cells c t x)) (h5 : t ≠ 5) (h42 : t ≠ 42) => HS4.out.fr.blk hk (not_sc ⟨_, _, HQ3.out⟩ HV3.out hk h5 h42)
  have c0' := cell_of_row w4 w.heap.size 0 _ 84 _ (hsc HX03.out (by decide) (by decide))
  have c1' := cell_of_row w4 (w.heap.size + 1) 0 _ 57 _ (hsc HX13.out (by decide) (by decide))
  have qq := cell_of_row w4 q 0 _ 42 _ HS4.out.row
  obtain ⟨⟨u3, hu3⟩, hpo3⟩ := HP3.out
  obtain ⟨⟨lr, hb2⟩, _⟩ := HBF.out
  have hbbp : b ≠ bp := by
    obtain ⟨u, hu⟩ := HPL.out.1
    exact ne_tag hb2 hu (by decide)
  have hb3 := HF3.out.blk hb2 (by simpa using hbbp)
  have hb4 := hsc hb3 (by decide) (by decide)
  have hu4 := hsc hu3 (by decide) (by decide)
  have hM4 : Mach w4 o bp b pv' none (.slice none 0 0) [] := ⟨⟨_, _, _, hsc HOP3.out (by decide) (by decide)⟩, ⟨⟨u3, hu4⟩, OwnC.fr hpo3 HS4.out.fr (fun k hk => by rw [HPB3.out] at hk; cases hk)⟩, ⟨⟨lr, hb4⟩, .inl ⟨rfl, rfl⟩⟩, fun _ _ h => by cases h⟩
  have hB4 : ∀ s, s ∈ mblk bp b pv' none (.slice none 0 0) → A.heap.size ≤ s := by
    intro k hk
    apply HB.out
    unfold mblk at hk ⊢
    rw [HPB3.out] at hk
    exact hk
  have hsq : ∀ s, s ∈ q :: V.ownBlock.toList → A.heap.size ≤ s := by
    intro k hk
    have h1 := HFA.out.size
    rcases List.mem_cons.1 hk with rfl | hk
    · exact Nat.le_trans h1 HFR3.out.1
    · exact Nat.le_trans h1 (HFR3.out.2 k (by simpa using hk))
  have hsbp : ∀ s, s ∈ [bp] → A.heap.size ≤ s := fun k hk => HB.out k (by unfold mblk; simp at hk; simp [hk])
  have hG4 := (HG2.out.fr HF3.out hsbp).fr HS4.out.fr hsq
  have hcs4 : ∀ k, (Value.slice az s.size cz).ownBlock = some k → k ∉ mblk bp b pv' none (.slice none 0 0) := by
    intro k hk hm
    obtain ⟨cc', x', hr⟩ := own_tag HS4.out.own hk
    unfold mblk at hm
    rw [HPB3.out] at hm
    simp [Value.ownBlock] at hm
    rcases hm with rfl | rfl
    · exact ne_tag hr hu4 (by decide) rfl
    · exact ne_tag hr hb4 (by decide) rfl
  have HC := Lib.hid (m1_any (ea := ea) (B := A.heap.size) o bp b w.heap.size (w.heap.size + 1) pv' none _ _ [] s.data.toList w4 hG4 hM4 hB4 c0' c1' HS4.out.own hcs4 (by have := HLIM.out; simp only [List.length_nil]; omega))
  have hqm : q ∉ mblk bp b pv' none (.slice none 0 0) := by
    intro hm
    unfold mblk at hm
    rw [HPB3.out] at hm
    simp [Value.ownBlock] at hm
    rcases hm with rfl | rfl
    · exact ne_tag HS4.out.row hu4 (by decide) rfl
    · exact ne_tag HS4.out.row hb4 (by decide) rfl
  have HQM := Lib.hid hqm
  have HB4 := Lib.hid hB4
  have HSQ := Lib.hid hsq
  have HSBP := Lib.hid hsbp
  clear hsc hu3 hpo3 hb2 hbbp hb3 hb4 hu4 hM4 hB4 hsq hsbp hG4 hcs4 hqm
  go_wp2_with (go_at_call 51; refine HC.out.mono ?_; rintro e w5 ⟨rfl, hq⟩; have HQ := Lib.hid hq; clear hq)
  obtain ⟨h5, pv2, po2, bv2, hM5, hm5⟩ := HQ.out
  have hq5 := h5.blk HS4.out.row HQM.out
  have hvo : ∃ k, (Value.slice az s.size cz).ownBlock = some k := by
    rcases HS4.out.blk with e | ⟨k, e, _⟩
    · obtain ⟨k, hk⟩ := HVO3.out
      exact ⟨k, e.trans hk⟩
    · exact ⟨k, e⟩
  obtain ⟨gk, rfl, hkc⟩ : ∃ gk, az = some ⟨gk, 0, none⟩ ∧ s.size ≤ cz := by
    obtain ⟨k, hk⟩ := hvo
    rcases HS4.out.own with ⟨e, _⟩ | ⟨gk, cap, e, hr⟩
    · rw [e] at hk
      simp [Value.ownBlock] at hk
    · simp only [Value.slice.injEq] at e
      obtain ⟨rfl, _, rfl⟩ := e
      obtain ⟨cur, fr, h1, h2, h3, h4, h5, h6⟩ := hr
      exact ⟨gk, rfl, by rw [Lib.size_eq]; exact h4⟩
  obtain ⟨⟨u5, hu5⟩, hpo5⟩ := hM5.pool
  obtain ⟨n5, cs5, hO5, hn5⟩ : ∃ n cs, OwnC w5 87 1 pv2 n cs ∧ n ≤ 1000 := by
    cases po2 with
    | none => exact ⟨0, [], hpo5, by omega⟩
    | some p => exact ⟨1, _, hpo5.1, by omega⟩
  have hqb5 : q ≠ bp := ne_tag hq5 hu5 (by decide)
  have hpb5 : pv2.ownBlock ≠ some bp := fun e => by
    obtain ⟨c', x', hr⟩ := ownC_tag hO5 e
    exact ne_tag hr hu5 (by decide) rfl
  have hpq5 : pv2.ownBlock ≠ some q := fun e => by
    obtain ⟨c', x', hr⟩ := ownC_tag hO5 e
    exact ne_tag hr hq5 (by decide) rfl
  refine leaves_cons (f := 40) (args := #[.pointer (some ⟨bp, 0, none⟩), .pointer (some ⟨q, 0, none⟩)]) (by simp) (by simp [go_sem]) ?_
  refine (put_anyD .returning bp q gk s.size cz u5 pv2 n5 cs5 w5 hu5 hO5 hn5 hq5 hkc hqb5 hpb5 hpq5).mono ?_
  rintro e u' w6 ⟨rfl, rfl, hpq6⟩
  have h6 := hpq6.1
  have hbuf : BufW w6 b bv2 ([] ++ (36 :: (Lib.itoa (s.data.toList.length : Int) ++ [13, 10] ++ s.data.toList ++ [13, 10]))) := by
    have hbb := hM5.buf
    refine hbb.fr h6 ?_ ?_
    · obtain ⟨lr5, hb5⟩ := hbb.1
      exact not_put ⟨_, _, hu5⟩ ⟨_, _, hq5⟩ hO5 hb5 (by decide) (by decide) (by decide)
    · intro k hk
      obtain ⟨c', x', hr⟩ := bufW_tag hbb hk
      exact not_put ⟨_, _, hu5⟩ ⟨_, _, hq5⟩ hO5 hr (by decide) (by decide) (by decide)
  have hA3 := (HFA.out.step HF3.out (fun k hk => .inr (HSBP.out k hk))).step HS4.out.fr (fun k hk => .inr (HSQ.out k hk))
  have hA5 := hA3.step h5 (fun k hk => .inr (HB4.out k hk))
  have hA6 : Fr [] A w6 := hA5.step h6 (fun k hk => by
    rcases List.mem_cons.1 hk with rfl | hk
    · exact .inr (HSBP.out _ (by simp))
    · rcases List.mem_cons.1 hk with rfl | hk
      · exact .inr (HSQ.out _ (by simp))
      · rcases hm5 k (by unfold mblk; simp at hk; simp [hk]) with h | h
        · exact .inr (HB4.out k h)
        · exact .inr (Nat.le_trans hA3.size h))
  have hout : MOut A b (36 :: (Lib.itoa (s.data.toList.length : Int) ++ [13, 10] ++ s.data.toList ++ [13, 10])) w6 := ⟨hA6, bv2, by simpa using hbuf⟩
  have HOUT := Lib.hid hout
  clear hout hbuf hA3 hA5 hA6 h5 hM5 hm5
  simp [Leaves, settle, results, Tryz.results24, go_sem]
  simpa using HOUT.out
end Go.Proofs.YtpkkgngpjeoffaaGreatDoor
