/- PROVED HERE: the walk of MarshalRESP of Double (func 53): the bytes go behind what the buffer holds. CONDITIONS: those ahead of each theorem. -/
import Derived.Test.YtpkkgngpjeoffaaGreatDoorMqT
import Derived.Test.YtpkkgngpjeoffaaGreatDoorFtE
namespace Go.Proofs.YtpkkgngpjeoffaaGreatDoor
open Go.RowKit

set_option maxRecDepth 100000 in
set_option maxHeartbeats 4000000 in
theorem dbl_inf {B : Nat} {ea : Addr} (o bp b : Nat) (pv : Value) (po : Option (Nat × Value)) (bv : Value) (n : Nat) (X bl : List UInt8) (w : World) (hG : Gp B ea w) (hM : Mach w o bp b pv po bv bl) (hB : ∀ s, s ∈ mblk bp b pv po bv → B ≤ s)
    (hn : n < 18446744073709551616) (bs : Int → Bool) (h87 : ∀ sg : Int, (sg = 1 ∨ sg = -1) → ∀ w, Calls Tryz.prog 87 #[.float .f64 n, .int .i64 sg] w fun e w' => e = .returned (.bool (bs sg)) ∧ w' = w) (hb1 : bs 1 = true) (hX : X = [105, 110, 102]) (hXl : X.length ≤ 3000) (hlim : bl.length ≤ 100000000) :
    Calls Tryz.prog 53 #[.agg #[.float .f64 n], .iface 56 (.pointer (some ⟨b, 0, none⟩)), .pointer (some ⟨o, 0, none⟩)] w fun e w' => e = .returned .nilIface ∧ MQ w o bp b pv po bv bl (44 :: (X ++ [13, 10])) w' := by
  have HX := Lib.hid hX
  have H87 := Lib.hid h87
  have HNN := Lib.hid hn
  clear hX h87 hn
  have HM := Lib.hid hM
  obtain ⟨⟨c2, c3, c4, hOp⟩, hPl, hBf, hAp⟩ := hM
  have hGet : ∀ W, Fr [] w W → Calls Tryz.prog 39 #[.pointer (some ⟨bp, 0, none⟩)] W (GetQ W bp pv po) := fun W hF => get_any bp pv po W (hPl.fr0 hF)
  have p0 : ∀ x, (w.alloc x).cell? ⟨o, 0, none⟩ = some (.func (.func 39) #[.pointer (some ⟨bp, 0, none⟩)] #[]) := fun x => cell_of_row (w.alloc x) o 0 _ 94 _ (((Fr.refl [] w).alloc x).blk hOp List.not_mem_nil)
  have HGET := Lib.hid hGet
  have HOP := Lib.hid hOp
  have HPL := Lib.hid hPl
  have HGG := Lib.hid hG
  have HBB := Lib.hid hB
  obtain ⟨w1, hw1⟩ : ∃ w1, w1 = w.alloc (.cells #[.float .f64 n] 131) := ⟨_, rfl⟩
  have hf1 : Fr [] w w1 := by rw [hw1]; exact (Fr.refl [] w).alloc _
  have hx1 : w1.heap[w.heap.size]? = some (.cells #[.float .f64 n] 131 (0, 0)) := by rw [hw1]; exact heap_alloc_new _ _
  have HF1 := Lib.hid hf1
  have HX1 := Lib.hid hx1
  have HW1 := Lib.hid hw1
  clear hGet hOp hBf hPl hG hAp hB hf1 hx1 hw1
  have hme : ∀ W : World, (method 487 56 (.pointer (some ⟨b, 0, none⟩)) "Write").run Tryz.prog W = .ok (205, .pointer (some ⟨b, 0, none⟩)) W := fun _ => by kernel_rfl
  have hna : ∀ W : World, (nilAhead 487 56 (.pointer (some ⟨b, 0, none⟩)) "Write").run Tryz.prog W = .ok (some false) W := fun _ => by kernel_rfl
  have hmf : ∀ (fn : Fn) (first cap : Array Value) (w : World), (Instr.makeFunc fn first cap).run Tryz.prog w = .ok (.func fn first cap) w := fun _ _ _ _ => rfl
  go_enter Tryz.func53, Tryz.ntmps53
  go_upto_region 2 with (go_at_call 39; rw [← HW1.out]; refine (HGET.out _ HF1.out).mono ?_; rintro e w2 ⟨hf2, q, v, pv', rfl, hq2, hv2, hp2, hpb2, hm2⟩; have HF2 := Lib.hid hf2; have HQ2 := Lib.hid hq2; have HV2 := Lib.hid hv2; have HP2 := Lib.hid hp2; have HM2 := Lib.hid hm2; have HPB2 := Lib.hid hpb2; clear hf2 hq2 hv2 hp2 hm2 hpb2)
  clear p0
  have hbpo : bp ≠ o := by
    obtain ⟨u, hu⟩ := HPL.out.1
    exact ne_tag hu HOP.out (by decide)
  have hOp2 := HF2.out.blk (HF1.out.blk HOP.out List.not_mem_nil) (by simp; exact fun e => hbpo e.symm)
  have hx2 := HF2.out.blk HX1.out (by
    obtain ⟨u, hu⟩ := HPL.out.1
    have := (Array.getElem?_eq_some_iff.1 hu).1
    simp; omega)
  obtain ⟨va, vc, hvv⟩ := own_shape HV2.out
  subst hvv
  have q0 := cell_of_row w2 q 0 _ 42 _ HQ2.out
  have hS2 : Sc w2 w2 q (.slice va (List.length ([] : List UInt8)) vc) (.slice va (List.length ([] : List UInt8)) vc) [] := ⟨Fr.refl _ _, HQ2.out, HV2.out, .inl rfl⟩
  have HS2 := Lib.hid hS2
  clear hS2
  obtain ⟨v, hvn⟩ : ∃ v, v = Value.slice va (List.length ([] : List UInt8)) vc := ⟨_, rfl⟩
  rw [← hvn] at HS2
  have HVN := Lib.hid hvn
  have hxq : w.heap.size ≠ q := ne_tag hx2 HQ2.out (by decide)
  have hxv : w.heap.size ∉ v.ownBlock.toList := by
    intro hm
    rw [HVN.out] at hm
    obtain ⟨cc', x', hr⟩ := own_tag HV2.out (g := w.heap.size) (by simpa using hm)
    exact ne_tag hx2 hr (by decide) rfl
  have HXX := Lib.hid (fun (W : World) (h : Fr (q :: v.ownBlock.toList) w2 W) => h.blk hx2 (by simp; exact ⟨hxq, fun h => hxv (by simpa using h)⟩))
  have hin := got_in (w := w) (w1 := w1) (bp := bp) (b := b) (pv := pv) (bv := bv) (po := po) (q := q) (v := v) (by rw [HVN.out]; exact HM2.out) HF1.out.size
  have hSb0 : ∀ s, s ∈ q :: v.ownBlock.toList → B ≤ s := by
    intro s hs
    rcases hin s hs with h | h
    · exact HBB.out s h
    · exact Nat.le_trans HGG.out.big h
  have HBV := Lib.hid (show ∀ g, v.ownBlock = some g → B ≤ g from fun g hg => hSb0 g (by simp [hg]))
  have HSB := Lib.hid hSb0
  have HG2 := Lib.hid (show Gp B ea w2 from (HGG.out.fr HF1.out (fun _ h => by cases h)).fr HF2.out (fun s hs => by simp at hs; subst hs; exact HBB.out _ (by simp [mblk])))
  clear hin hSb0 hxq hxv
  go_upto_region 3 with (at_builtin; refine wpApp1 w2 (o := ⟨some 20, _, _, _, _, _⟩) rfl (.tmp 18) (.tmp 19) rfl (.slice va (List.length ([] : List UInt8)) vc) [] _ 44 rfl rfl rfl HV2.out (by simp) ?_; intro v5 w5 ho5 hs5; obtain ⟨a5, c5, rfl⟩ := own_shape ho5; have HR5 := Lib.hid (hs5.1.blk HQ2.out (fun hm => HS2.out.ne (by rw [HVN.out]; simpa using hm))); have r5 := cell_of_row w5 q 0 _ 42 _ HR5.out; have f5 := frozen_of_row w5 q 0 _ 42 HR5.out; have HO5 := Lib.hid ho5; have HT5 := Lib.hid hs5; clear ho5 hs5)
  obtain ⟨w6, hw6⟩ : ∃ x, x = w5.setCell ⟨q, 0, none⟩ (.slice a5 ([] ++ [(44 : UInt8)]).length c5) := ⟨_, rfl⟩
  have hS6 : Sc w2 w6 q v (.slice a5 ([] ++ [(44 : UInt8)]).length c5) [44] := by rw [hw6]; exact HS2.out.app (by rw [HVN.out]; exact HT5.out) HO5.out
  have HW6 := Lib.hid hw6
  have HS6 := Lib.hid hS6
  clear hw6 hS6 r5 f5
  have hw6e : w5.setCell ⟨q, 0, none⟩ (.slice a5 1 c5) = w6 := HW6.out.symm
  rw [hw6e]
  clear hw6e q0
  obtain ⟨l6, hl6⟩ : ∃ l : List UInt8, l = [44] := ⟨_, rfl⟩
  have HL6 := Lib.hid hl6
  have hn6 : l6.length = 1 := by rw [hl6]; rfl
  have HN6 := Lib.hid hn6
  have HSn6 : Hid (Sc w2 w6 q v (.slice a5 l6.length c5) l6) := Lib.hid (by rw [hn6, hl6]; exact HS6.out)
  clear HS6 hl6 hn6
  obtain ⟨a6, ha6⟩ : ∃ x, x = a5 := ⟨_, rfl⟩
  obtain ⟨c6, hc6⟩ : ∃ x, x = c5 := ⟨_, rfl⟩
  subst ha6
  subst hc6
  have hb6 : l6.length ≤ 1 := Nat.le_of_eq HN6.out
  have hx6 := HXX.out w6 HSn6.out.fr
  have x0 := cell_of_row w6 w.heap.size 0 _ 131 _ hx6
  have q0 := cell_of_row w6 q 0 _ 42 _ HSn6.out.row
  obtain ⟨l7, hl7⟩ : ∃ l : List UInt8, l = l6 ++ X := ⟨_, rfl⟩
  have HL7 := Lib.hid hl7
  have hn7 : l7.length = l6.length + X.length := by rw [hl7]; simp
  have HN7 := Lib.hid hn7
  have hb7 : l7.length ≤ 1 + X.length := by omega
  clear hl7 hn7 hx6
  have hXX : X = [105, 110, 102] := HX.out
  subst hXX
  have q0' : w6.cell? ⟨q, 0, none⟩ = some (.slice a6 l6.length c6) := q0
  go_upto_region 8 with (first
    | (go_at_call 87; refine (H87.out _ (by first | exact .inl rfl | exact .inr rfl) _).mono ?_; rintro e wq ⟨rfl, hwq⟩; obtain rfl := hwq.symm)
    | (at_builtin; refine wpAppS w6 (o := ⟨some 29, _, _, _, _, _⟩) rfl (.tmp 28) (.const (.string ⟨#[105, 110, 102]⟩)) 9 rfl (.slice a6 l6.length c6) l6 [105, 110, 102] _ rfl rfl HSn6.out.own (srcStr _ ⟨#[105, 110, 102]⟩) (by simp; omega) ?_; intro vz wz hoz hsz; obtain ⟨az, cz, rfl⟩ := own_shape hoz; have HRz := Lib.hid (hsz.1.blk HSn6.out.row (fun hm => HSn6.out.ne (by simpa using hm))); have rz := cell_of_row wz q 0 _ 42 _ HRz.out; have fz := frozen_of_row wz q 0 _ 42 HRz.out; have HOz := Lib.hid hoz; have HTz := Lib.hid hsz; clear hoz hsz))
  have hh := HSn6.out.app HTz.out HOz.out
  obtain ⟨w7, hw7⟩ : ∃ x, x = wz.setCell ⟨q, 0, none⟩ (.slice az (l6 ++ [105, 110, 102]).length cz) := ⟨_, rfl⟩
  rw [← hw7, ← HL7.out] at hh
  have hw7e : wz.setCell ⟨q, 0, none⟩ (.slice az (l6.length + 3) cz) = w7 := by rw [hw7]; simp
  rw [hw7e]
  have HSn7 := Lib.hid hh
  obtain ⟨a7, ha7⟩ : ∃ x, x = az := ⟨_, rfl⟩
  obtain ⟨c7, hc7⟩ : ∃ x, x = cz := ⟨_, rfl⟩
  subst ha7
  subst hc7
  clear hh hw7 hw7e rz fz q0 q0' x0
  have hx7 := HXX.out w7 HSn7.out.fr
  have q0 := cell_of_row w7 q 0 _ 42 _ HSn7.out.row
  obtain ⟨l8, hl8⟩ : ∃ l : List UInt8, l = l7 ++ [13, 10] := ⟨_, rfl⟩
  have HL8 := Lib.hid hl8
  have hn8 : l8.length = l7.length + 2 := by rw [hl8]; simp
  have HN8 := Lib.hid hn8
  have hb8 : l8.length ≤ 10 := by simp at hb7; omega
  clear hl8 hn8 hx7
  go_upto_region 8 with fail
  go_cut [53] from 48 to 54 (fun x wx => CutQ w2 q v l8 x wx)
  case first =>
    go_region_law (first
      | (go_simp; go_at_call 71; refine (delim_any _).mono ?_; rintro e wd ⟨dg, rfl, hfd, hdd, hgd⟩; have HSd := Lib.hid (HSn7.out.fr0 ((Fr.refl [] w7).drew.trans hfd)); have HDd := Lib.hid hdd; have rd := cell_of_row wd q 0 _ 42 _ HSd.out.row; clear hfd hdd)
      | (refine stepAppB wd (by rfl) _ _ (by rfl) (.slice a7 l7.length c7) l7 [13, 10] (.slice (some ⟨dg, 0, none⟩) 2 2) (by rfl) (by rfl) HSd.out.own HDd.out (by simp; omega) ?_; intro vz wz hoz hsz; obtain ⟨az, cz, rfl⟩ := own_shape hoz; have HRz := Lib.hid (hsz.1.blk HSd.out.row (fun hm => HSd.out.ne (by simpa using hm))); have rz := cell_of_row wz q 0 _ 42 _ HRz.out; have fz := frozen_of_row wz q 0 _ 42 HRz.out; have HOz := Lib.hid hoz; have HTz := Lib.hid hsz; clear hoz hsz))
    all_goals
      go_wp2_with fail
      go_meet
      have hh := HSd.out.app HTz.out HOz.out
      rw [← HL8.out] at hh
      exact ⟨az, cz, by rw [HN8.out], by rw [← HN8.out]; exact hh⟩
  obtain ⟨a8, c8, rfl, hSn⟩ := hcut
  obtain ⟨w8, hwn⟩ : ∃ x, x = wc := ⟨_, rfl⟩
  subst hwn
  have HSn8 := Lib.hid hSn
  clear hSn q0
  have q0 := cell_of_row w8 q 0 _ 42 _ HSn8.out.row
  go_upto_region 9 with fail
  have hbb := mq_buf HM.out HF1.out HF2.out (by rw [HVN.out]; exact HQ2.out) (by rw [HVN.out]; exact HV2.out) HP2.out (by rw [HVN.out]; exact HM2.out) HSn8.out
  have hlne : l8 ≠ [] := by
    intro e
    have := congrArg List.length e
    rw [HN8.out] at this
    simp at this
  have HWR := Lib.hid (bufWrite_any b bv bl l8 (.slice a8 l8.length c8) w8.drew (show BufW w8.drew b bv bl from hbb.1.fr (Fr.refl [] w8).drew List.not_mem_nil (fun _ _ => List.not_mem_nil)) (show Own w8.drew 5 _ l8 from HSn8.out.own) hlne hbb.2 (by omega))
  have HLN := Lib.hid hlne
  have HBF := Lib.hid hbb.1
  clear hbb hlne
  go_cut [8, 9] from 8 to 65 (fun _ x9 wx => x9 = .nilIface ∧ Hid (WrQ w8 b bv bl l8 wx))
  case first =>
    go_region_law (go_simp; go_at_call 205; refine HWR.out.mono ?_; rintro e wy ⟨rfl, hwr⟩; have HWQ := Lib.hid (WrQ.pre (Fr.refl [] w8).drew hwr); clear hwr)
    all_goals
      go_wp2_with fail
      go_meet
      exact ⟨rfl, HWQ⟩
  obtain ⟨rfl, HWQ⟩ := hcut
  obtain ⟨wy, hwy⟩ : ∃ x, x = wc := ⟨_, rfl⟩
  subst hwy
  obtain ⟨gk, rfl, hkc⟩ := own_row HSn8.out.own HLN.out
  obtain ⟨u5, hu5, hO5, hq5, hqb5, hpb5, hpq5⟩ := mq_put HM.out HF1.out HF2.out (by rw [HVN.out]; exact HQ2.out) (by rw [HVN.out]; exact HV2.out) HP2.out (by rw [HVN.out]; exact HM2.out) HSn8.out HWQ.out
  have hOp8 := HSn8.out.fr.blk hOp2 (not_sc ⟨_, _, HQ2.out⟩ (by rw [HVN.out]; exact HV2.out) hOp2 (by decide) (by decide))
  have hOpy := HWQ.out.1.blk hOp8 (not_buf HBF.out hOp8 (by decide) (by decide))
  have p1 := cell_of_row wy o 1 _ 94 _ hOpy
  have HPUT := Lib.hid (put_any bp q gk l8.length c8 u5 pv' 0 [] wy hu5 hO5 (by omega) hq5 hkc hqb5 hpb5 hpq5)
  clear hu5 hO5 hq5 hqb5 hpb5 hpq5 hOp8 hOpy
  go_wp2_with (go_at_call 40; refine HPUT.out.mono ?_; rintro e w16 ⟨rfl, hpq⟩; have HPQ := Lib.hid hpq; clear hpq)
  go_ret
  have hend := mq_end HM.out HF1.out HF2.out (by rw [HVN.out]; exact HQ2.out) (by rw [HVN.out]; exact HV2.out) HP2.out HPB2.out (by rw [HVN.out]; exact HM2.out) HSn8.out HWQ.out HPQ.out
  rw [HL8.out, HL7.out, HL6.out] at hend
  refine ⟨rfl, ?_⟩
  simpa using hend
set_option maxRecDepth 100000 in
set_option maxHeartbeats 4000000 in
theorem dbl_ninf {B : Nat} {ea : Addr} (o bp b : Nat) (pv : Value) (po : Option (Nat × Value)) (bv : Value) (n : Nat) (X bl : List UInt8) (w : World) (hG : Gp B ea w) (hM : Mach w o bp b pv po bv bl) (hB : ∀ s, s ∈ mblk bp b pv po bv → B ≤ s)
    (hn : n < 18446744073709551616) (bs : Int → Bool) (h87 : ∀ sg : Int, (sg = 1 ∨ sg = -1) → ∀ w, Calls Tryz.prog 87 #[.float .f64 n, .int .i64 sg] w fun e w' => e = .returned (.bool (bs sg)) ∧ w' = w) (hb1 : bs 1 = false) (hb2 : bs (-1) = true) (hX : X = [45, 105, 110, 102]) (hXl : X.length ≤ 3000) (hlim : bl.length ≤ 100000000) :
    Calls Tryz.prog 53 #[.agg #[.float .f64 n], .iface 56 (.pointer (some ⟨b, 0, none⟩)), .pointer (some ⟨o, 0, none⟩)] w fun e w' => e = .returned .nilIface ∧ MQ w o bp b pv po bv bl (44 :: (X ++ [13, 10])) w' := by
  have HX := Lib.hid hX
  have H87 := Lib.hid h87
  have HNN := Lib.hid hn
  clear hX h87 hn
  have HM := Lib.hid hM
  obtain ⟨⟨c2, c3, c4, hOp⟩, hPl, hBf, hAp⟩ := hM
  have hGet : ∀ W, Fr [] w W → Calls Tryz.prog 39 #[.pointer (some ⟨bp, 0, none⟩)] W (GetQ W bp pv po) := fun W hF => get_any bp pv po W (hPl.fr0 hF)
  have p0 : ∀ x, (w.alloc x).cell? ⟨o, 0, none⟩ = some (.func (.func 39) #[.pointer (some ⟨bp, 0, none⟩)] #[]) := fun x => cell_of_row (w.alloc x) o 0 _ 94 _ (((Fr.refl [] w).alloc x).blk hOp List.not_mem_nil)
  have HGET := Lib.hid hGet
  have HOP := Lib.hid hOp
  have HPL := Lib.hid hPl
  have HGG := Lib.hid hG
  have HBB := Lib.hid hB
  obtain ⟨w1, hw1⟩ : ∃ w1, w1 = w.alloc (.cells #[.float .f64 n] 131) := ⟨_, rfl⟩
  have hf1 : Fr [] w w1 := by rw [hw1]; exact (Fr.refl [] w).alloc _
  have hx1 : w1.heap[w.heap.size]? = some (.cells #[.float .f64 n] 131 (0, 0)) := by rw [hw1]; exact heap_alloc_new _ _
  have HF1 := Lib.hid hf1
  have HX1 := Lib.hid hx1
  have HW1 := Lib.hid hw1
  clear hGet hOp hBf hPl hG hAp hB hf1 hx1 hw1
  have hme : ∀ W : World, (method 487 56 (.pointer (some ⟨b, 0, none⟩)) "Write").run Tryz.prog W = .ok (205, .pointer (some ⟨b, 0, none⟩)) W := fun _ => by kernel_rfl
  have hna : ∀ W : World, (nilAhead 487 56 (.pointer (some ⟨b, 0, none⟩)) "Write").run Tryz.prog W = .ok (some false) W := fun _ => by kernel_rfl
  have hmf : ∀ (fn : Fn) (first cap : Array Value) (w : World), (Instr.makeFunc fn first cap).run Tryz.prog w = .ok (.func fn first cap) w := fun _ _ _ _ => rfl
  go_enter Tryz.func53, Tryz.ntmps53
  go_upto_region 2 with (go_at_call 39; rw [← HW1.out]; refine (HGET.out _ HF1.out).mono ?_; rintro e w2 ⟨hf2, q, v, pv', rfl, hq2, hv2, hp2, hpb2, hm2⟩; have HF2 := Lib.hid hf2; have HQ2 := Lib.hid hq2; have HV2 := Lib.hid hv2; have HP2 := Lib.hid hp2; have HM2 := Lib.hid hm2; have HPB2 := Lib.hid hpb2; clear hf2 hq2 hv2 hp2 hm2 hpb2)
  clear p0
  have hbpo : bp ≠ o := by
    obtain ⟨u, hu⟩ := HPL.out.1
    exact ne_tag hu HOP.out (by decide)
  have hOp2 := HF2.out.blk (HF1.out.blk HOP.out List.not_mem_nil) (by simp; exact fun e => hbpo e.symm)
  have hx2 := HF2.out.blk HX1.out (by
    obtain ⟨u, hu⟩ := HPL.out.1
    have := (Array.getElem?_eq_some_iff.1 hu).1
    simp; omega)
  obtain ⟨va, vc, hvv⟩ := own_shape HV2.out
  subst hvv
  have q0 := cell_of_row w2 q 0 _ 42 _ HQ2.out
  have hS2 : Sc w2 w2 q (.slice va (List.length ([] : List UInt8)) vc) (.slice va (List.length ([] : List UInt8)) vc) [] := ⟨Fr.refl _ _, HQ2.out, HV2.out, .inl rfl⟩
  have HS2 := Lib.hid hS2
  clear hS2
  obtain ⟨v, hvn⟩ : ∃ v, v = Value.slice va (List.length ([] : List UInt8)) vc := ⟨_, rfl⟩
  rw [← hvn] at HS2
  have HVN := Lib.hid hvn
  have hxq : w.heap.size ≠ q := ne_tag hx2 HQ2.out (by decide)
  have hxv : w.heap.size ∉ v.ownBlock.toList := by
    intro hm
    rw [HVN.out] at hm
    obtain ⟨cc', x', hr⟩ := own_tag HV2.out (g := w.heap.size) (by simpa using hm)
    exact ne_tag hx2 hr (by decide) rfl
  have HXX := Lib.hid (fun (W : World) (h : Fr (q :: v.ownBlock.toList) w2 W) => h.blk hx2 (by simp; exact ⟨hxq, fun h => hxv (by simpa using h)⟩))
  have hin := got_in (w := w) (w1 := w1) (bp := bp) (b := b) (pv := pv) (bv := bv) (po := po) (q := q) (v := v) (by rw [HVN.out]; exact HM2.out) HF1.out.size
  have hSb0 : ∀ s, s ∈ q :: v.ownBlock.toList → B ≤ s := by
    intro s hs
    rcases hin s hs with h | h
    · exact HBB.out s h
    · exact Nat.le_trans HGG.out.big h
  have HBV := Lib.hid (show ∀ g, v.ownBlock = some g → B ≤ g from fun g hg => hSb0 g (by simp [hg]))
  have HSB := Lib.hid hSb0
  have HG2 := Lib.hid (show Gp B ea w2 from (HGG.out.fr HF1.out (fun _ h => by cases h)).fr HF2.out (fun s hs => by simp at hs; subst hs; exact HBB.out _ (by simp [mblk])))
  clear hin hSb0 hxq hxv
  go_upto_region 3 with (at_builtin; refine wpApp1 w2 (o := ⟨some 20, _, _, _, _, _⟩) rfl (.tmp 18) (.tmp 19) rfl (.slice va (List.length ([] : List UInt8)) vc) [] _ 44 rfl rfl rfl HV2.out (by simp) ?_; intro v5 w5 ho5 hs5; obtain ⟨a5, c5, rfl⟩ := own_shape ho5; have HR5 := Lib.hid (hs5.1.blk HQ2.out (fun hm => HS2.out.ne (by rw [HVN.out]; simpa using hm))); have r5 := cell_of_row w5 q 0 _ 42 _ HR5.out; have f5 := frozen_of_row w5 q 0 _ 42 HR5.out; have HO5 := Lib.hid ho5; have HT5 := Lib.hid hs5; clear ho5 hs5)
  obtain ⟨w6, hw6⟩ : ∃ x, x = w5.setCell ⟨q, 0, none⟩ (.slice a5 ([] ++ [(44 : UInt8)]).length c5) := ⟨_, rfl⟩
  have hS6 : Sc w2 w6 q v (.slice a5 ([] ++ [(44 : UInt8)]).length c5) [44] := by rw [hw6]; exact HS2.out.app (by rw [HVN.out]; exact HT5.out) HO5.out
  have HW6 := Lib.hid hw6
  have HS6 := Lib.hid hS6
  clear hw6 hS6 r5 f5
  have hw6e : w5.setCell ⟨q, 0, none⟩ (.slice a5 1 c5) = w6 := HW6.out.symm
  rw [hw6e]
  clear hw6e q0
  obtain ⟨l6, hl6⟩ : ∃ l : List UInt8, l = [44] := ⟨_, rfl⟩
  have HL6 := Lib.hid hl6
  have hn6 : l6.length = 1 := by rw [hl6]; rfl
  have HN6 := Lib.hid hn6
  have HSn6 : Hid (Sc w2 w6 q v (.slice a5 l6.length c5) l6) := Lib.hid (by rw [hn6, hl6]; exact HS6.out)
  clear HS6 hl6 hn6
  obtain ⟨a6, ha6⟩ : ∃ x, x = a5 := ⟨_, rfl⟩
  obtain ⟨c6, hc6⟩ : ∃ x, x = c5 := ⟨_, rfl⟩
  subst ha6
  subst hc6
  have hb6 : l6.length ≤ 1 := Nat.le_of_eq HN6.out
  have hx6 := HXX.out w6 HSn6.out.fr
  have x0 := cell_of_row w6 w.heap.size 0 _ 131 _ hx6
  have q0 := cell_of_row w6 q 0 _ 42 _ HSn6.out.row
  obtain ⟨l7, hl7⟩ : ∃ l : List UInt8, l = l6 ++ X := ⟨_, rfl⟩
  have HL7 := Lib.hid hl7
  have hn7 : l7.length = l6.length + X.length := by rw [hl7]; simp
  have HN7 := Lib.hid hn7
  have hb7 : l7.length ≤ 1 + X.length := by omega
  clear hl7 hn7 hx6
  have hXX : X = [45, 105, 110, 102] := HX.out
  subst hXX
  have q0' : w6.cell? ⟨q, 0, none⟩ = some (.slice a6 l6.length c6) := q0
  go_upto_region 8 with (first
    | (go_at_call 87; refine (H87.out _ (by first | exact .inl rfl | exact .inr rfl) _).mono ?_; rintro e wq ⟨rfl, hwq⟩; obtain rfl := hwq.symm)
    | (at_builtin; refine wpAppS w6 (o := ⟨some 38, _, _, _, _, _⟩) rfl (.tmp 37) (.const (.string ⟨#[45, 105, 110, 102]⟩)) 9 rfl (.slice a6 l6.length c6) l6 [45, 105, 110, 102] _ rfl rfl HSn6.out.own (srcStr _ ⟨#[45, 105, 110, 102]⟩) (by simp; omega) ?_; intro vz wz hoz hsz; obtain ⟨az, cz, rfl⟩ := own_shape hoz; have HRz := Lib.hid (hsz.1.blk HSn6.out.row (fun hm => HSn6.out.ne (by simpa using hm))); have rz := cell_of_row wz q 0 _ 42 _ HRz.out; have fz := frozen_of_row wz q 0 _ 42 HRz.out; have HOz := Lib.hid hoz; have HTz := Lib.hid hsz; clear hoz hsz))
  have hh := HSn6.out.app HTz.out HOz.out
  obtain ⟨w7, hw7⟩ : ∃ x, x = wz.setCell ⟨q, 0, none⟩ (.slice az (l6 ++ [45, 105, 110, 102]).length cz) := ⟨_, rfl⟩
  rw [← hw7, ← HL7.out] at hh
  have hw7e : wz.setCell ⟨q, 0, none⟩ (.slice az (l6.length + 4) cz) = w7 := by rw [hw7]; simp
  rw [hw7e]
  have HSn7 := Lib.hid hh
  obtain ⟨a7, ha7⟩ : ∃ x, x = az := ⟨_, rfl⟩
  obtain ⟨c7, hc7⟩ : ∃ x, x = cz := ⟨_, rfl⟩
  subst ha7
  subst hc7
  clear hh hw7 hw7e rz fz q0 q0' x0
  have hx7 := HXX.out w7 HSn7.out.fr
  have q0 := cell_of_row w7 q 0 _ 42 _ HSn7.out.row
  obtain ⟨l8, hl8⟩ : ∃ l : List UInt8, l = l7 ++ [13, 10] := ⟨_, rfl⟩
  have HL8 := Lib.hid hl8
  have hn8 : l8.length = l7.length + 2 := by rw [hl8]; simp
  have HN8 := Lib.hid hn8
  have hb8 : l8.length ≤ 10 := by simp at hb7; omega
  clear hl8 hn8 hx7
  go_upto_region 8 with fail
  go_cut [53] from 48 to 54 (fun x wx => CutQ w2 q v l8 x wx)
  case first =>
    go_region_law (first
      | (go_simp; go_at_call 71; refine (delim_any _).mono ?_; rintro e wd ⟨dg, rfl, hfd, hdd, hgd⟩; have HSd := Lib.hid (HSn7.out.fr0 ((Fr.refl [] w7).drew.trans hfd)); have HDd := Lib.hid hdd; have rd := cell_of_row wd q 0 _ 42 _ HSd.out.row; clear hfd hdd)
      | (refine stepAppB wd (by rfl) _ _ (by rfl) (.slice a7 l7.length c7) l7 [13, 10] (.slice (some ⟨dg, 0, none⟩) 2 2) (by rfl) (by rfl) HSd.out.own HDd.out (by simp; omega) ?_; intro vz wz hoz hsz; obtain ⟨az, cz, rfl⟩ := own_shape hoz; have HRz := Lib.hid (hsz.1.blk HSd.out.row (fun hm => HSd.out.ne (by simpa using hm))); have rz := cell_of_row wz q 0 _ 42 _ HRz.out; have fz := frozen_of_row wz q 0 _ 42 HRz.out; have HOz := Lib.hid hoz; have HTz := Lib.hid hsz; clear hoz hsz))
    all_goals
      go_wp2_with fail
      go_meet
      have hh := HSd.out.app HTz.out HOz.out
      rw [← HL8.out] at hh
      exact ⟨az, cz, by rw [HN8.out], by rw [← HN8.out]; exact hh⟩
  obtain ⟨a8, c8, rfl, hSn⟩ := hcut
  obtain ⟨w8, hwn⟩ : ∃ x, x = wc := ⟨_, rfl⟩
  subst hwn
  have HSn8 := Lib.hid hSn
  clear hSn q0
  have q0 := cell_of_row w8 q 0 _ 42 _ HSn8.out.row
  go_upto_region 9 with fail
  have hbb := mq_buf HM.out HF1.out HF2.out (by rw [HVN.out]; exact HQ2.out) (by rw [HVN.out]; exact HV2.out) HP2.out (by rw [HVN.out]; exact HM2.out) HSn8.out
  have hlne : l8 ≠ [] := by
    intro e
    have := congrArg List.length e
    rw [HN8.out] at this
    simp at this
  have HWR := Lib.hid (bufWrite_any b bv bl l8 (.slice a8 l8.length c8) w8.drew (show BufW w8.drew b bv bl from hbb.1.fr (Fr.refl [] w8).drew List.not_mem_nil (fun _ _ => List.not_mem_nil)) (show Own w8.drew 5 _ l8 from HSn8.out.own) hlne hbb.2 (by omega))
  have HLN := Lib.hid hlne
  have HBF := Lib.hid hbb.1
  clear hbb hlne
  go_cut [8, 9] from 8 to 65 (fun _ x9 wx => x9 = .nilIface ∧ Hid (WrQ w8 b bv bl l8 wx))
  case first =>
    go_region_law (go_simp; go_at_call 205; refine HWR.out.mono ?_; rintro e wy ⟨rfl, hwr⟩; have HWQ := Lib.hid (WrQ.pre (Fr.refl [] w8).drew hwr); clear hwr)
    all_goals
      go_wp2_with fail
      go_meet
      exact ⟨rfl, HWQ⟩
  obtain ⟨rfl, HWQ⟩ := hcut
  obtain ⟨wy, hwy⟩ : ∃ x, x = wc := ⟨_, rfl⟩
  subst hwy
  obtain ⟨gk, rfl, hkc⟩ := own_row HSn8.out.own HLN.out
  obtain ⟨u5, hu5, hO5, hq5, hqb5, hpb5, hpq5⟩ := mq_put HM.out HF1.out HF2.out (by rw [HVN.out]; exact HQ2.out) (by rw [HVN.out]; exact HV2.out) HP2.out (by rw [HVN.out]; exact HM2.out) HSn8.out HWQ.out
  have hOp8 := HSn8.out.fr.blk hOp2 (not_sc ⟨_, _, HQ2.out⟩ (by rw [HVN.out]; exact HV2.out) hOp2 (by decide) (by decide))
  have hOpy := HWQ.out.1.blk hOp8 (not_buf HBF.out hOp8 (by decide) (by decide))
  have p1 := cell_of_row wy o 1 _ 94 _ hOpy
  have HPUT := Lib.hid (put_any bp q gk l8.length c8 u5 pv' 0 [] wy hu5 hO5 (by omega) hq5 hkc hqb5 hpb5 hpq5)
  clear hu5 hO5 hq5 hqb5 hpb5 hpq5 hOp8 hOpy
  go_wp2_with (go_at_call 40; refine HPUT.out.mono ?_; rintro e w16 ⟨rfl, hpq⟩; have HPQ := Lib.hid hpq; clear hpq)
  go_ret
  have hend := mq_end HM.out HF1.out HF2.out (by rw [HVN.out]; exact HQ2.out) (by rw [HVN.out]; exact HV2.out) HP2.out HPB2.out (by rw [HVN.out]; exact HM2.out) HSn8.out HWQ.out HPQ.out
  rw [HL8.out, HL7.out, HL6.out] at hend
  refine ⟨rfl, ?_⟩
  simpa using hend
set_option maxRecDepth 100000 in
set_option maxHeartbeats 4000000 in
theorem dbl_num {B : Nat} {ea : Addr} (o bp b : Nat) (pv : Value) (po : Option (Nat × Value)) (bv : Value) (n : Nat) (X bl : List UInt8) (w : World) (hG : Gp B ea w) (hM : Mach w o bp b pv po bv bl) (hB : ∀ s, s ∈ mblk bp b pv po bv → B ≤ s)
    (hn : n < 18446744073709551616) (bs : Int → Bool) (h87 : ∀ sg : Int, (sg = 1 ∨ sg = -1) → ∀ w, Calls Tryz.prog 87 #[.float .f64 n, .int .i64 sg] w fun e w' => e = .returned (.bool (bs sg)) ∧ w' = w) (hb1 : bs 1 = false) (hb2 : bs (-1) = false) (hX : X = fTx n) (hXl : X.length ≤ 3000) (hlim : bl.length ≤ 100000000) :
    Calls Tryz.prog 53 #[.agg #[.float .f64 n], .iface 56 (.pointer (some ⟨b, 0, none⟩)), .pointer (some ⟨o, 0, none⟩)] w fun e w' => e = .returned .nilIface ∧ MQ w o bp b pv po bv bl (44 :: (X ++ [13, 10])) w' := by
  have HX := Lib.hid hX
  have H87 := Lib.hid h87
  have HNN := Lib.hid hn
  clear hX h87 hn
  have HM := Lib.hid hM
  obtain ⟨⟨c2, c3, c4, hOp⟩, hPl, hBf, hAp⟩ := hM
  have hGet : ∀ W, Fr [] w W → Calls Tryz.prog 39 #[.pointer (some ⟨bp, 0, none⟩)] W (GetQ W bp pv po) := fun W hF => get_any bp pv po W (hPl.fr0 hF)
  have p0 : ∀ x, (w.alloc x).cell? ⟨o, 0, none⟩ = some (.func (.func 39) #[.pointer (some ⟨bp, 0, none⟩)] #[]) := fun x => cell_of_row (w.alloc x) o 0 _ 94 _ (((Fr.refl [] w).alloc x).blk hOp List.not_mem_nil)
  have HGET := Lib.hid hGet
  have HOP := Lib.hid hOp
  have HPL := Lib.hid hPl
  have HGG := Lib.hid hG
  have HBB := Lib.hid hB
  obtain ⟨w1, hw1⟩ : ∃ w1, w1 = w.alloc (.cells #[.float .f64 n] 131) := ⟨_, rfl⟩
  have hf1 : Fr [] w w1 := by rw [hw1]; exact (Fr.refl [] w).alloc _
  have hx1 : w1.heap[w.heap.size]? = some (.cells #[.float .f64 n] 131 (0, 0)) := by rw [hw1]; exact heap_alloc_new _ _
  have HF1 := Lib.hid hf1
  have HX1 := Lib.hid hx1
  have HW1 := Lib.hid hw1
  clear hGet hOp hBf hPl hG hAp hB hf1 hx1 hw1
  have hme : ∀ W : World, (method 487 56 (.pointer (some ⟨b, 0, none⟩)) "Write").run Tryz.prog W = .ok (205, .pointer (some ⟨b, 0, none⟩)) W := fun _ => by kernel_rfl
  have hna : ∀ W : World, (nilAhead 487 56 (.pointer (some ⟨b, 0, none⟩)) "Write").run Tryz.prog W = .ok (some false) W := fun _ => by kernel_rfl
  have hmf : ∀ (fn : Fn) (first cap : Array Value) (w : World), (Instr.makeFunc fn first cap).run Tryz.prog w = .ok (.func fn first cap) w := fun _ _ _ _ => rfl
  go_enter Tryz.func53, Tryz.ntmps53
  go_upto_region 2 with (go_at_call 39; rw [← HW1.out]; refine (HGET.out _ HF1.out).mono ?_; rintro e w2 ⟨hf2, q, v, pv', rfl, hq2, hv2, hp2, hpb2, hm2⟩; have HF2 := Lib.hid hf2; have HQ2 := Lib.hid hq2; have HV2 := Lib.hid hv2; have HP2 := Lib.hid hp2; have HM2 := Lib.hid hm2; have HPB2 := Lib.hid hpb2; clear hf2 hq2 hv2 hp2 hm2 hpb2)
  clear p0
  have hbpo : bp ≠ o := by
    obtain ⟨u, hu⟩ := HPL.out.1
    exact ne_tag hu HOP.out (by decide)
  have hOp2 := HF2.out.blk (HF1.out.blk HOP.out List.not_mem_nil) (by simp; exact fun e => hbpo e.symm)
  have hx2 := HF2.out.blk HX1.out (by
    obtain ⟨u, hu⟩ := HPL.out.1
    have := (Array.getElem?_eq_some_iff.1 hu).1
    simp; omega)
  obtain ⟨va, vc, hvv⟩ := own_shape HV2.out
  subst hvv
  have q0 := cell_of_row w2 q 0 _ 42 _ HQ2.out
  have hS2 : Sc w2 w2 q (.slice va (List.length ([] : List UInt8)) vc) (.slice va (List.length ([] : List UInt8)) vc) [] := ⟨Fr.refl _ _, HQ2.out, HV2.out, .inl rfl⟩
  have HS2 := Lib.hid hS2
  clear hS2
  obtain ⟨v, hvn⟩ : ∃ v, v = Value.slice va (List.length ([] : List UInt8)) vc := ⟨_, rfl⟩
  rw [← hvn] at HS2
  have HVN := Lib.hid hvn
  have hxq : w.heap.size ≠ q := ne_tag hx2 HQ2.out (by decide)
  have hxv : w.heap.size ∉ v.ownBlock.toList := by
    intro hm
    rw [HVN.out] at hm
    obtain ⟨cc', x', hr⟩ := own_tag HV2.out (g := w.heap.size) (by simpa using hm)
    exact ne_tag hx2 hr (by decide) rfl
  have HXX := Lib.hid (fun (W : World) (h : Fr (q :: v.ownBlock.toList) w2 W) => h.blk hx2 (by simp; exact ⟨hxq, fun h => hxv (by simpa using h)⟩))
  have hin := got_in (w := w) (w1 := w1) (bp := bp) (b := b) (pv := pv) (bv := bv) (po := po) (q := q) (v := v) (by rw [HVN.out]; exact HM2.out) HF1.out.size
  have hSb0 : ∀ s, s ∈ q :: v.ownBlock.toList → B ≤ s := by
    intro s hs
    rcases hin s hs with h | h
    · exact HBB.out s h
    · exact Nat.le_trans HGG.out.big h
  have HBV := Lib.hid (show ∀ g, v.ownBlock = some g → B ≤ g from fun g hg => hSb0 g (by simp [hg]))
  have HSB := Lib.hid hSb0
  have HG2 := Lib.hid (show Gp B ea w2 from (HGG.out.fr HF1.out (fun _ h => by cases h)).fr HF2.out (fun s hs => by simp at hs; subst hs; exact HBB.out _ (by simp [mblk])))
  clear hin hSb0 hxq hxv
  go_upto_region 3 with (at_builtin; refine wpApp1 w2 (o := ⟨some 20, _, _, _, _, _⟩) rfl (.tmp 18) (.tmp 19) rfl (.slice va (List.length ([] : List UInt8)) vc) [] _ 44 rfl rfl rfl HV2.out (by simp) ?_; intro v5 w5 ho5 hs5; obtain ⟨a5, c5, rfl⟩ := own_shape ho5; have HR5 := Lib.hid (hs5.1.blk HQ2.out (fun hm => HS2.out.ne (by rw [HVN.out]; simpa using hm))); have r5 := cell_of_row w5 q 0 _ 42 _ HR5.out; have f5 := frozen_of_row w5 q 0 _ 42 HR5.out; have HO5 := Lib.hid ho5; have HT5 := Lib.hid hs5; clear ho5 hs5)
  obtain ⟨w6, hw6⟩ : ∃ x, x = w5.setCell ⟨q, 0, none⟩ (.slice a5 ([] ++ [(44 : UInt8)]).length c5) := ⟨_, rfl⟩
  have hS6 : Sc w2 w6 q v (.slice a5 ([] ++ [(44 : UInt8)]).length c5) [44] := by rw [hw6]; exact HS2.out.app (by rw [HVN.out]; exact HT5.out) HO5.out
  have HW6 := Lib.hid hw6
  have HS6 := Lib.hid hS6
  clear hw6 hS6 r5 f5
  have hw6e : w5.setCell ⟨q, 0, none⟩ (.slice a5 1 c5) = w6 := HW6.out.symm
  rw [hw6e]
  clear hw6e q0
  obtain ⟨l6, hl6⟩ : ∃ l : List UInt8, l = [44] := ⟨_, rfl⟩
  have HL6 := Lib.hid hl6
  have hn6 : l6.length = 1 := by rw [hl6]; rfl
  have HN6 := Lib.hid hn6
  have HSn6 : Hid (Sc w2 w6 q v (.slice a5 l6.length c5) l6) := Lib.hid (by rw [hn6, hl6]; exact HS6.out)
  clear HS6 hl6 hn6
  obtain ⟨a6, ha6⟩ : ∃ x, x = a5 := ⟨_, rfl⟩
  obtain ⟨c6, hc6⟩ : ∃ x, x = c5 := ⟨_, rfl⟩
  subst ha6
  subst hc6
  have hb6 : l6.length ≤ 1 := Nat.le_of_eq HN6.out
  have hx6 := HXX.out w6 HSn6.out.fr
  have x0 := cell_of_row w6 w.heap.size 0 _ 131 _ hx6
  have q0 := cell_of_row w6 q 0 _ 42 _ HSn6.out.row
  obtain ⟨l7, hl7⟩ : ∃ l : List UInt8, l = l6 ++ X := ⟨_, rfl⟩
  have HL7 := Lib.hid hl7
  have hn7 : l7.length = l6.length + X.length := by rw [hl7]; simp
  have HN7 := Lib.hid hn7
  have hb7 : l7.length ≤ 1 + X.length := by omega
  clear hl7 hn7 hx6
  go_upto_region 7 with (go_at_call 87; refine (H87.out _ (by first | exact .inl rfl | exact .inr rfl) _).mono ?_; rintro e wq ⟨rfl, hwq⟩; obtain rfl := hwq.symm)
  go_cut [46] from 40 to 47 (fun x wx => CutQ w2 q v l7 x wx)
  case first =>
    go_region_law (go_simp; go_at_call 88; refine (appendFloat_any n HNN.out B ea (.slice a6 l6.length c6) l6 w6.drew ((HG2.out.fr HSn6.out.fr HSB.out).fr (Fr.refl [] w6).drew (fun _ h => by cases h)) (show Own w6.drew 5 _ l6 from HSn6.out.own) (by omega)).mono ?_; rintro e wz ⟨vz, rfl, hoz, hsz⟩; rw [← HX.out] at hoz; obtain ⟨az, cz, rfl⟩ := own_shape hoz; have hsz' : Stp w6 wz (.slice a6 l6.length c6) (.slice az (l6 ++ X).length cz) := Stp.pre ((Fr.refl [] w6).drew) hsz; have HRz := Lib.hid (hsz'.1.blk HSn6.out.row (fun hm => HSn6.out.ne (by simpa using hm))); have rz := cell_of_row wz q 0 _ 42 _ HRz.out; have fz := frozen_of_row wz q 0 _ 42 HRz.out; have HOz := Lib.hid hoz; have HTz := Lib.hid hsz'; clear hoz hsz hsz')
    all_goals
      go_wp2_with fail
      go_meet
      have hh := HSn6.out.app HTz.out HOz.out
      rw [← HL7.out] at hh
      exact ⟨az, cz, by rw [HN7.out], by rw [← HN7.out]; exact hh⟩
  obtain ⟨a7, c7, rfl, hSn⟩ := hcut
  obtain ⟨w7, hwn⟩ : ∃ x, x = wc := ⟨_, rfl⟩
  subst hwn
  have HSn7 := Lib.hid hSn
  clear hSn q0 x0
  have hx7 := HXX.out w7 HSn7.out.fr
  have q0 := cell_of_row w7 q 0 _ 42 _ HSn7.out.row
  obtain ⟨l8, hl8⟩ : ∃ l : List UInt8, l = l7 ++ [13, 10] := ⟨_, rfl⟩
  have HL8 := Lib.hid hl8
  have hn8 : l8.length = l7.length + 2 := by rw [hl8]; simp
  have HN8 := Lib.hid hn8
  have hb8 : l8.length ≤ 3 + X.length := by omega
  clear hl8 hn8 hx7
  go_upto_region 8 with fail
  go_cut [53] from 48 to 54 (fun x wx => CutQ w2 q v l8 x wx)
  case first =>
    go_region_law (first
      | (go_simp; go_at_call 71; refine (delim_any _).mono ?_; rintro e wd ⟨dg, rfl, hfd, hdd, hgd⟩; have HSd := Lib.hid (HSn7.out.fr0 ((Fr.refl [] w7).drew.trans hfd)); have HDd := Lib.hid hdd; have rd := cell_of_row wd q 0 _ 42 _ HSd.out.row; clear hfd hdd)
      | (refine stepAppB wd (by rfl) _ _ (by rfl) (.slice a7 l7.length c7) l7 [13, 10] (.slice (some ⟨dg, 0, none⟩) 2 2) (by rfl) (by rfl) HSd.out.own HDd.out (by simp; omega) ?_; intro vz wz hoz hsz; obtain ⟨az, cz, rfl⟩ := own_shape hoz; have HRz := Lib.hid (hsz.1.blk HSd.out.row (fun hm => HSd.out.ne (by simpa using hm))); have rz := cell_of_row wz q 0 _ 42 _ HRz.out; have fz := frozen_of_row wz q 0 _ 42 HRz.out; have HOz := Lib.hid hoz; have HTz := Lib.hid hsz; clear hoz hsz))
    all_goals
      go_wp2_with fail
      go_meet
      have hh := HSd.out.app HTz.out HOz.out
      rw [← HL8.out] at hh
      exact ⟨az, cz, by rw [HN8.out], by rw [← HN8.out]; exact hh⟩
  obtain ⟨a8, c8, rfl, hSn⟩ := hcut
  obtain ⟨w8, hwn⟩ : ∃ x, x = wc := ⟨_, rfl⟩
  subst hwn
  have HSn8 := Lib.hid hSn
  clear hSn q0
  have q0 := cell_of_row w8 q 0 _ 42 _ HSn8.out.row
  go_upto_region 9 with fail
  have hbb := mq_buf HM.out HF1.out HF2.out (by rw [HVN.out]; exact HQ2.out) (by rw [HVN.out]; exact HV2.out) HP2.out (by rw [HVN.out]; exact HM2.out) HSn8.out
  have hlne : l8 ≠ [] := by
    intro e
    have := congrArg List.length e
    rw [HN8.out] at this
    simp at this
  have HWR := Lib.hid (bufWrite_any b bv bl l8 (.slice a8 l8.length c8) w8.drew (show BufW w8.drew b bv bl from hbb.1.fr (Fr.refl [] w8).drew List.not_mem_nil (fun _ _ => List.not_mem_nil)) (show Own w8.drew 5 _ l8 from HSn8.out.own) hlne hbb.2 (by omega))
  have HLN := Lib.hid hlne
  have HBF := Lib.hid hbb.1
  clear hbb hlne
  go_cut [8, 9] from 8 to 65 (fun _ x9 wx => x9 = .nilIface ∧ Hid (WrQ w8 b bv bl l8 wx))
  case first =>
    go_region_law (go_simp; go_at_call 205; refine HWR.out.mono ?_; rintro e wy ⟨rfl, hwr⟩; have HWQ := Lib.hid (WrQ.pre (Fr.refl [] w8).drew hwr); clear hwr)
    all_goals
      go_wp2_with fail
      go_meet
      exact ⟨rfl, HWQ⟩
  obtain ⟨rfl, HWQ⟩ := hcut
  obtain ⟨wy, hwy⟩ : ∃ x, x = wc := ⟨_, rfl⟩
  subst hwy
  obtain ⟨gk, rfl, hkc⟩ := own_row HSn8.out.own HLN.out
  obtain ⟨u5, hu5, hO5, hq5, hqb5, hpb5, hpq5⟩ := mq_put HM.out HF1.out HF2.out (by rw [HVN.out]; exact HQ2.out) (by rw [HVN.out]; exact HV2.out) HP2.out (by rw [HVN.out]; exact HM2.out) HSn8.out HWQ.out
  have hOp8 := HSn8.out.fr.blk hOp2 (not_sc ⟨_, _, HQ2.out⟩ (by rw [HVN.out]; exact HV2.out) hOp2 (by decide) (by decide))
  have hOpy := HWQ.out.1.blk hOp8 (not_buf HBF.out hOp8 (by decide) (by decide))
  have p1 := cell_of_row wy o 1 _ 94 _ hOpy
  have HPUT := Lib.hid (put_any bp q gk l8.length c8 u5 pv' 0 [] wy hu5 hO5 (by omega) hq5 hkc hqb5 hpb5 hpq5)
  clear hu5 hO5 hq5 hqb5 hpb5 hpq5 hOp8 hOpy
  go_wp2_with (go_at_call 40; refine HPUT.out.mono ?_; rintro e w16 ⟨rfl, hpq⟩; have HPQ := Lib.hid hpq; clear hpq)
  go_ret
  have hend := mq_end HM.out HF1.out HF2.out (by rw [HVN.out]; exact HQ2.out) (by rw [HVN.out]; exact HV2.out) HP2.out HPB2.out (by rw [HVN.out]; exact HM2.out) HSn8.out HWQ.out HPQ.out
  rw [HL8.out, HL7.out, HL6.out] at hend
  refine ⟨rfl, ?_⟩
  simpa using hend

theorem isInf_ex (n : Nat) : ∃ bs : Int → Bool, ∀ sg : Int, (sg = 1 ∨ sg = -1) → ∀ w, Calls Tryz.prog 87 #[.float .f64 n, .int .i64 sg] w fun e w' => e = .returned (.bool (bs sg)) ∧ w' = w := by
  have h1 : ∃ b1 : Bool, ∀ w, Calls Tryz.prog 87 #[.float .f64 n, .int .i64 1] w fun e w' => e = .returned (.bool b1) ∧ w' = w := by
    apply Exists.intro
    intro w
    go_enter Tryz.func87, Tryz.ntmps87
    go_wp2
    go_ret
    exact ⟨rfl, rfl⟩
  have h2 : ∃ b2 : Bool, ∀ w, Calls Tryz.prog 87 #[.float .f64 n, .int .i64 (-1)] w fun e w' => e = .returned (.bool b2) ∧ w' = w := by
    obtain ⟨x, hx⟩ : ∃ x : Nat, ∀ W : World, (Op.unary UnOp.neg (.float .f64 n)).run Tryz.prog W = .ok (.float .f64 x) W := ⟨_, fun _ => rfl⟩
    apply Exists.intro
    intro w
    go_enter Tryz.func87, Tryz.ntmps87
    go_wp2
    go_ret
    exact ⟨rfl, rfl⟩
  obtain ⟨b1, k1⟩ := h1
  obtain ⟨b2, k2⟩ := h2
  refine ⟨fun sg => if sg = 1 then b1 else b2, fun sg hsg w => ?_⟩
  rcases hsg with rfl | rfl
  · simpa using k1 w
  · simpa using k2 w
theorem dbl_ex (n : Nat) (hn : n < 18446744073709551616) : ∃ T : List UInt8, T.length ≤ 3000 ∧ ∀ {B : Nat} {ea : Addr} (o bp b : Nat) (pv : Value) (po : Option (Nat × Value)) (bv : Value) (bl : List UInt8) (w : World) (_ : Gp B ea w) (_ : Mach w o bp b pv po bv bl) (_ : ∀ s, s ∈ mblk bp b pv po bv → B ≤ s) (_ : bl.length ≤ 100000000),
    Calls Tryz.prog 53 #[.agg #[.float .f64 n], .iface 56 (.pointer (some ⟨b, 0, none⟩)), .pointer (some ⟨o, 0, none⟩)] w fun e w' => e = .returned .nilIface ∧ MQ w o bp b pv po bv bl (44 :: (T ++ [13, 10])) w' := by
  obtain ⟨bs, k⟩ := isInf_ex n
  cases h1 : bs 1 with
  | true => exact ⟨[105, 110, 102], by simp, fun o bp b pv po bv bl w hG hM hB hl => dbl_inf o bp b pv po bv n _ bl w hG hM hB hn bs k h1 rfl (by simp) hl⟩
  | false =>
    cases h2 : bs (-1) with
    | true => exact ⟨[45, 105, 110, 102], by simp, fun o bp b pv po bv bl w hG hM hB hl => dbl_ninf o bp b pv po bv n _ bl w hG hM hB hn bs k h1 h2 rfl (by simp) hl⟩
    | false => exact ⟨fTx n, fTx_len n, fun o bp b pv po bv bl w hG hM hB hl => dbl_num o bp b pv po bv n _ bl w hG hM hB hn bs k h1 h2 rfl (fTx_len n) hl⟩
/-- What is written of a double. -/
noncomputable def dTx (n : Nat) : List UInt8 := if h : n < 18446744073709551616 then Classical.choose (dbl_ex n h) else []
theorem dTx_len (n : Nat) : (dTx n).length ≤ 3000 := by
  unfold dTx
  split
  · rename_i h; exact (Classical.choose_spec (dbl_ex n h)).1
  · simp
theorem dbl_any {B : Nat} {ea : Addr} (o bp b : Nat) (pv : Value) (po : Option (Nat × Value)) (bv : Value) (n : Nat) (bl : List UInt8) (w : World) (hG : Gp B ea w) (hM : Mach w o bp b pv po bv bl) (hB : ∀ s, s ∈ mblk bp b pv po bv → B ≤ s) (hn : n < 18446744073709551616) (hlim : bl.length ≤ 100000000) :
    Calls Tryz.prog 53 #[.agg #[.float .f64 n], .iface 56 (.pointer (some ⟨b, 0, none⟩)), .pointer (some ⟨o, 0, none⟩)] w fun e w' => e = .returned .nilIface ∧ MQ w o bp b pv po bv bl (44 :: (dTx n ++ [13, 10])) w' := by
  have := (Classical.choose_spec (dbl_ex n hn)).2 o bp b pv po bv bl w hG hM hB hlim
  unfold dTx
  rw [dif_pos hn]
  exact this
end Go.Proofs.YtpkkgngpjeoffaaGreatDoor
