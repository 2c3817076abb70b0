/- PROVED HERE: the walks of MarshalRESP of BlobStringBytes (func 33): the bytes go behind what the buffer holds. CONDITIONS: those ahead of each theorem. -/
import Derived.Test.YtpkkgngpjeoffaaGreatDoorMqT
namespace Go.Proofs.YtpkkgngpjeoffaaGreatDoor
open Go.RowKit

set_option maxRecDepth 100000 in
set_option maxHeartbeats 4000000 in
theorem blob_any {B : Nat} {ea : Addr} (o bp b : Nat) (pv : Value) (po : Option (Nat × Value)) (bv : Value) (cv : Value) (X bl c : List UInt8) (w : World) (hG : Gv B ea w) (hM : Mach w o bp b pv po bv bl) (hB : ∀ s, s ∈ mblk bp b pv po bv → B ≤ s)
    (hc : Own w 5 cv c) (hcs : ∀ g, cv.ownBlock = some g → g ∉ mblk bp b pv po bv) (hX : X = Lib.itoa (c.length : Int)) (hXl : X.length ≤ 21) (hlim : bl.length + c.length ≤ 100000000) :
    Calls Tryz.prog 33 #[.agg #[cv, .bool false], .iface 56 (.pointer (some ⟨b, 0, none⟩)), .pointer (some ⟨o, 0, none⟩)] w fun e w' => e = .returned .nilIface ∧ MQ w o bp b pv po bv bl (36 :: (X ++ [13, 10] ++ c ++ [13, 10])) w' := by
  have HX := Lib.hid hX
  clear hX
  have hcl : (c.length : Int) ≤ 100000000 := by omega
  have HM := Lib.hid hM
  obtain ⟨⟨c2, c3, c4, hOp⟩, hPl, hBf, hAp⟩ := hM
  have hGet : ∀ W, Fr [] w W → Calls Tryz.prog 39 #[.pointer (some ⟨bp, 0, none⟩)] W (GetQ W bp pv po) := fun W hF => get_any bp pv po W (hPl.fr0 hF)
  have p0 : ∀ x, (w.alloc x).cell? ⟨o, 0, none⟩ = some (.func (.func 39) #[.pointer (some ⟨bp, 0, none⟩)] #[]) := fun x => cell_of_row (w.alloc x) o 0 _ 94 _ (((Fr.refl [] w).alloc x).blk hOp List.not_mem_nil)
  have HGET := Lib.hid hGet
  have HOP := Lib.hid hOp
  have HPL := Lib.hid hPl
  have HGG := Lib.hid hG
  have HBB := Lib.hid hB
  obtain ⟨w1, hw1⟩ : ∃ w1, w1 = w.alloc (.cells #[cv, .bool false] 86) := ⟨_, rfl⟩
  have hf1 : Fr [] w w1 := by rw [hw1]; exact (Fr.refl [] w).alloc _
  have hx1 : w1.heap[w.heap.size]? = some (.cells #[cv, .bool false] 86 (0, 0)) := by rw [hw1]; exact heap_alloc_new _ _
  have HF1 := Lib.hid hf1
  have HX1 := Lib.hid hx1
  have HW1 := Lib.hid hw1
  clear hGet hOp hBf hPl hG hAp hB hf1 hx1 hw1
  have HCV := Lib.hid hc
  have HCS := Lib.hid hcs
  clear hc hcs
  have hme : ∀ W : World, (method 487 56 (.pointer (some ⟨b, 0, none⟩)) "Write").run Tryz.prog W = .ok (205, .pointer (some ⟨b, 0, none⟩)) W := fun _ => by kernel_rfl
  go_enter_defers Tryz.func33, Tryz.ntmps33
  go_upto_region 2 with (go_at_call 39; rw [← HW1.out]; refine (HGET.out _ HF1.out).mono ?_; rintro e w2 ⟨hf2, q, v, pv', rfl, hq2, hv2, hp2, hpb2, hm2⟩; have HF2 := Lib.hid hf2; have HQ2 := Lib.hid hq2; have HV2 := Lib.hid hv2; have HP2 := Lib.hid hp2; have HM2 := Lib.hid hm2; have HPB2 := Lib.hid hpb2; clear hf2 hq2 hv2 hp2 hm2 hpb2)
  clear p0
  have hbpo : bp ≠ o := by
    obtain ⟨u, hu⟩ := HPL.out.1
    exact ne_tag hu HOP.out (by decide)
  have hOp2 := HF2.out.blk (HF1.out.blk HOP.out List.not_mem_nil) (by simp; exact fun e => hbpo e.symm)
  have p1 := cell_of_row w2 o 1 _ 94 _ hOp2
  have hx2 := HF2.out.blk HX1.out (by
    obtain ⟨u, hu⟩ := HPL.out.1
    have := (Array.getElem?_eq_some_iff.1 hu).1
    simp; omega)
  obtain ⟨ca, cc, hcv⟩ := own_shape HCV.out
  subst hcv
  obtain ⟨va, vc, hvv⟩ := own_shape HV2.out
  subst hvv
  have q0 := cell_of_row w2 q 0 _ 42 _ HQ2.out
  have hS2 : Sc w2 w2 q (.slice va (List.length ([] : List UInt8)) vc) (.slice va (List.length ([] : List UInt8)) vc) [] := ⟨Fr.refl _ _, HQ2.out, HV2.out, .inl rfl⟩
  have HS2 := Lib.hid hS2
  clear hS2
  obtain ⟨v, hvn⟩ : ∃ v, v = Value.slice va (List.length ([] : List UInt8)) vc := ⟨_, rfl⟩
  rw [← hvn] at HS2
  have HVN := Lib.hid hvn
  have hxq : w.heap.size ≠ q := ne_tag hx2 HQ2.out (by decide)
  have hxv : w.heap.size ∉ v.ownBlock.toList := by
    intro hm
    rw [HVN.out] at hm
    obtain ⟨cc', x', hr⟩ := own_tag HV2.out (g := w.heap.size) (by simpa using hm)
    exact ne_tag hx2 hr (by decide) rfl
  have HXX := Lib.hid (fun (W : World) (h : Fr (q :: v.ownBlock.toList) w2 W) => h.blk hx2 (by simp; exact ⟨hxq, fun h => hxv (by simpa using h)⟩))
  have hin := got_in (w := w) (w1 := w1) (bp := bp) (b := b) (pv := pv) (bv := bv) (po := po) (q := q) (v := v) (by rw [HVN.out]; exact HM2.out) HF1.out.size
  have hSb0 : ∀ s, s ∈ q :: v.ownBlock.toList → B ≤ s := by
    intro s hs
    rcases hin s hs with h | h
    · exact HBB.out s h
    · exact Nat.le_trans HGG.out.big h
  have HBV := Lib.hid (show ∀ g, v.ownBlock = some g → B ≤ g from fun g hg => hSb0 g (by simp [hg]))
  have HSB := Lib.hid hSb0
  have HG2 := Lib.hid (show Gv B ea w2 from (HGG.out.fr HF1.out (fun _ h => by cases h)).fr HF2.out (fun s hs => by simp at hs; subst hs; exact HBB.out _ (by simp [mblk])))
  clear hin hSb0 hxq hxv
  go_upto_region 4 with (at_builtin; refine wpApp1 w2 (o := ⟨some 25, _, _, _, _, _⟩) rfl (.tmp 23) (.tmp 24) rfl (.slice va (List.length ([] : List UInt8)) vc) [] _ 36 rfl rfl rfl HV2.out (by simp) ?_; intro v5 w5 ho5 hs5; obtain ⟨a5, c5, rfl⟩ := own_shape ho5; have HR5 := Lib.hid (hs5.1.blk HQ2.out (fun hm => HS2.out.ne (by rw [HVN.out]; simpa using hm))); have r5 := cell_of_row w5 q 0 _ 42 _ HR5.out; have f5 := frozen_of_row w5 q 0 _ 42 HR5.out; have HO5 := Lib.hid ho5; have HT5 := Lib.hid hs5; clear ho5 hs5)
  obtain ⟨w6, hw6⟩ : ∃ x, x = w5.setCell ⟨q, 0, none⟩ (.slice a5 ([] ++ [(36 : UInt8)]).length c5) := ⟨_, rfl⟩
  have hS6 : Sc w2 w6 q v (.slice a5 ([] ++ [(36 : UInt8)]).length c5) [36] := by rw [hw6]; exact HS2.out.app (by rw [HVN.out]; exact HT5.out) HO5.out
  have HW6 := Lib.hid hw6
  have HS6 := Lib.hid hS6
  clear hw6 hS6 r5 f5
  have hw6e : w5.setCell ⟨q, 0, none⟩ (.slice a5 1 c5) = w6 := HW6.out.symm
  rw [hw6e]
  clear hw6e q0
  obtain ⟨l6, hl6⟩ : ∃ l : List UInt8, l = [36] := ⟨_, rfl⟩
  have HL6 := Lib.hid hl6
  have hn6 : l6.length = 1 := by rw [hl6]; rfl
  have HN6 := Lib.hid hn6
  have HSn6 : Hid (Sc w2 w6 q v (.slice a5 l6.length c5) l6) := Lib.hid (by rw [hn6, hl6]; exact HS6.out)
  clear HS6 hl6 hn6
  obtain ⟨a6, ha6⟩ : ∃ x, x = a5 := ⟨_, rfl⟩
  obtain ⟨c6, hc6⟩ : ∃ x, x = c5 := ⟨_, rfl⟩
  subst ha6
  subst hc6
  have hb6 : l6.length ≤ 1 := Nat.le_of_eq HN6.out
  have hx6 := HXX.out w6 HSn6.out.fr
  have x0 := cell_of_row w6 w.heap.size 0 _ 86 _ hx6
  have x1 := cell_of_row w6 w.heap.size 1 _ 86 _ hx6
  have q0 := cell_of_row w6 q 0 _ 42 _ HSn6.out.row
  obtain ⟨l7, hl7⟩ : ∃ l : List UInt8, l = l6 ++ X := ⟨_, rfl⟩
  have HL7 := Lib.hid hl7
  have hn7 : l7.length = l6.length + X.length := by rw [hl7]; simp
  have HN7 := Lib.hid hn7
  have hb7 : l7.length ≤ 1 + X.length := by omega
  clear hl7 hn7 hx6
  go_upto_region 6 with fail
  go_cut [43] from 36 to 44 (fun x wx => CutQ w2 q v l7 x wx)
  case first =>
    refine wp_region_noPanic ?_
    go_region_law (go_simp; go_at_call 70; refine (appendInt_any (c.length : Int) (by omega) (by omega) (.slice a6 l6.length c6) l6 w6.drew ((HG2.out.fr HSn6.out.fr HSB.out).fr (Fr.refl [] w6).drew (fun _ h => by cases h)) (show Own w6.drew 5 _ l6 from HSn6.out.own) (by omega) (HSn6.out.base HBV.out HG2.out.big)).mono ?_; rintro e wz ⟨vz, rfl, hoz, hsz⟩; rw [← HX.out] at hoz; obtain ⟨az, cz, rfl⟩ := own_shape hoz; have hsz' : Stp w6 wz (.slice a6 l6.length c6) (.slice az (l6 ++ X).length cz) := Stp.pre ((Fr.refl [] w6).drew) hsz; have HRz := Lib.hid (hsz'.1.blk HSn6.out.row (fun hm => HSn6.out.ne (by simpa using hm))); have rz := cell_of_row wz q 0 _ 42 _ HRz.out; have fz := frozen_of_row wz q 0 _ 42 HRz.out; have HOz := Lib.hid hoz; have HTz := Lib.hid hsz'; clear hoz hsz hsz')
    all_goals
      refine NoPanic.normal ?_
      go_wp2_with fail
      go_meet
      have hh := HSn6.out.app HTz.out HOz.out
      rw [← HL7.out] at hh
      exact ⟨az, cz, by rw [HN7.out], by rw [← HN7.out]; exact hh⟩
  obtain ⟨a7, c7, rfl, hSn⟩ := hcut
  obtain ⟨w7, hwn⟩ : ∃ x, x = wc := ⟨_, rfl⟩
  subst hwn
  have HSn7 := Lib.hid hSn
  clear hSn q0 x0 x1
  have hx7 := HXX.out w7 HSn7.out.fr
  have x0 := cell_of_row w7 w.heap.size 0 _ 86 _ hx7
  have x1 := cell_of_row w7 w.heap.size 1 _ 86 _ hx7
  have q0 := cell_of_row w7 q 0 _ 42 _ HSn7.out.row
  obtain ⟨l8, hl8⟩ : ∃ l : List UInt8, l = l7 ++ [13, 10] := ⟨_, rfl⟩
  have HL8 := Lib.hid hl8
  have hn8 : l8.length = l7.length + 2 := by rw [hl8]; simp
  have HN8 := Lib.hid hn8
  have hb8 : l8.length ≤ 1 + X.length + 2 := by omega
  clear hl8 hn8 hx7
  go_upto_region 7 with fail
  go_cut [50] from 45 to 51 (fun x wx => CutQ w2 q v l8 x wx)
  case first =>
    refine wp_region_noPanic ?_
    go_region_law (first
      | (go_simp; go_at_call 71; refine (delim_any _).mono ?_; rintro e wd ⟨dg, rfl, hfd, hdd, hgd⟩; have HSd := Lib.hid (HSn7.out.fr0 ((Fr.refl [] w7).drew.trans hfd)); have HDd := Lib.hid hdd; have rd := cell_of_row wd q 0 _ 42 _ HSd.out.row; clear hfd hdd)
      | (refine stepAppB wd (by rfl) _ _ (by rfl) (.slice a7 l7.length c7) l7 [13, 10] (.slice (some ⟨dg, 0, none⟩) 2 2) (by rfl) (by rfl) HSd.out.own HDd.out (by simp; omega) ?_; intro vz wz hoz hsz; obtain ⟨az, cz, rfl⟩ := own_shape hoz; have HRz := Lib.hid (hsz.1.blk HSd.out.row (fun hm => HSd.out.ne (by simpa using hm))); have rz := cell_of_row wz q 0 _ 42 _ HRz.out; have fz := frozen_of_row wz q 0 _ 42 HRz.out; have HOz := Lib.hid hoz; have HTz := Lib.hid hsz; clear hoz hsz))
    all_goals
      refine NoPanic.normal ?_
      go_wp2_with fail
      go_meet
      have hh := HSd.out.app HTz.out HOz.out
      rw [← HL8.out] at hh
      exact ⟨az, cz, by rw [HN8.out], by rw [← HN8.out]; exact hh⟩
  obtain ⟨a8, c8, rfl, hSn⟩ := hcut
  obtain ⟨w8, hwn⟩ : ∃ x, x = wc := ⟨_, rfl⟩
  subst hwn
  have HSn8 := Lib.hid hSn
  clear hSn q0 x0 x1
  have hx8 := HXX.out w8 HSn8.out.fr
  have x0 := cell_of_row w8 w.heap.size 0 _ 86 _ hx8
  have x1 := cell_of_row w8 w.heap.size 1 _ 86 _ hx8
  have q0 := cell_of_row w8 q 0 _ 42 _ HSn8.out.row
  obtain ⟨l9, hl9⟩ : ∃ l : List UInt8, l = l8 ++ c := ⟨_, rfl⟩
  have HL9 := Lib.hid hl9
  have hn9 : l9.length = l8.length + c.length := by rw [hl9]; simp
  have HN9 := Lib.hid hn9
  have hb9 : l9.length ≤ 1 + X.length + 2 + c.length := by omega
  clear hl9 hn9 hx8
  go_upto_region 8 with fail
  have hcv8 : Own w8 5 (.slice ca c.length cc) c := own_besides HCV.out HCS.out HF1.out HF2.out (by rw [HVN.out]; exact HM2.out) HSn8.out
  have HC8 := Lib.hid hcv8
  clear hcv8
  go_cut [58] from 52 to 59 (fun x wx => CutQ w2 q v l9 x wx)
  case first =>
    refine wp_region_noPanic ?_
    go_region_law (refine stepAppB w8.drew (by rfl) _ _ (by rfl) (.slice a8 l8.length c8) l8 c (.slice ca c.length cc) (by rfl) (by rfl) (show Own w8.drew 5 _ l8 from HSn8.out.own) (show Own w8.drew 5 _ c from HC8.out) (by omega) ?_; intro vz wz hoz hsz; obtain ⟨az, cz, rfl⟩ := own_shape hoz; have hsz' : Stp w8 wz (.slice a8 l8.length c8) (.slice az (l8 ++ c).length cz) := Stp.pre ((Fr.refl [] w8).drew) hsz; have HRz := Lib.hid (hsz'.1.blk HSn8.out.row (fun hm => HSn8.out.ne (by simpa using hm))); have rz := cell_of_row wz q 0 _ 42 _ HRz.out; have fz := frozen_of_row wz q 0 _ 42 HRz.out; have HOz := Lib.hid hoz; have HTz := Lib.hid hsz'; clear hoz hsz hsz')
    all_goals
      refine NoPanic.normal ?_
      go_wp2_with fail
      go_meet
      have hh := HSn8.out.app HTz.out HOz.out
      rw [← HL9.out] at hh
      exact ⟨az, cz, by rw [HN9.out], by rw [← HN9.out]; exact hh⟩
  obtain ⟨a9, c9, rfl, hSn⟩ := hcut
  obtain ⟨w9, hwn⟩ : ∃ x, x = wc := ⟨_, rfl⟩
  subst hwn
  have HSn9 := Lib.hid hSn
  clear hSn q0 x0 x1
  have hx9 := HXX.out w9 HSn9.out.fr
  have x0 := cell_of_row w9 w.heap.size 0 _ 86 _ hx9
  have x1 := cell_of_row w9 w.heap.size 1 _ 86 _ hx9
  have q0 := cell_of_row w9 q 0 _ 42 _ HSn9.out.row
  obtain ⟨l10, hl10⟩ : ∃ l : List UInt8, l = l9 ++ [13, 10] := ⟨_, rfl⟩
  have HL10 := Lib.hid hl10
  have hn10 : l10.length = l9.length + 2 := by rw [hl10]; simp
  have HN10 := Lib.hid hn10
  have hb10 : l10.length ≤ 1 + X.length + 2 + c.length + 2 := by omega
  clear hl10 hn10 hx9
  go_upto_region 9 with fail
  go_cut [65] from 60 to 66 (fun x wx => CutQ w2 q v l10 x wx)
  case first =>
    refine wp_region_noPanic ?_
    go_region_law (first
      | (go_simp; go_at_call 71; refine (delim_any _).mono ?_; rintro e wd ⟨dg, rfl, hfd, hdd, hgd⟩; have HSd := Lib.hid (HSn9.out.fr0 ((Fr.refl [] w9).drew.trans hfd)); have HDd := Lib.hid hdd; have rd := cell_of_row wd q 0 _ 42 _ HSd.out.row; clear hfd hdd)
      | (refine stepAppB wd (by rfl) _ _ (by rfl) (.slice a9 l9.length c9) l9 [13, 10] (.slice (some ⟨dg, 0, none⟩) 2 2) (by rfl) (by rfl) HSd.out.own HDd.out (by simp; omega) ?_; intro vz wz hoz hsz; obtain ⟨az, cz, rfl⟩ := own_shape hoz; have HRz := Lib.hid (hsz.1.blk HSd.out.row (fun hm => HSd.out.ne (by simpa using hm))); have rz := cell_of_row wz q 0 _ 42 _ HRz.out; have fz := frozen_of_row wz q 0 _ 42 HRz.out; have HOz := Lib.hid hoz; have HTz := Lib.hid hsz; clear hoz hsz))
    all_goals
      refine NoPanic.normal ?_
      go_wp2_with fail
      go_meet
      have hh := HSd.out.app HTz.out HOz.out
      rw [← HL10.out] at hh
      exact ⟨az, cz, by rw [HN10.out], by rw [← HN10.out]; exact hh⟩
  obtain ⟨a10, c10, rfl, hSn⟩ := hcut
  obtain ⟨w10, hwn⟩ : ∃ x, x = wc := ⟨_, rfl⟩
  subst hwn
  have HSn10 := Lib.hid hSn
  clear hSn q0 x0 x1
  have q0 := cell_of_row w10 q 0 _ 42 _ HSn10.out.row
  go_upto_region 10 with fail
  have hbb := mq_buf HM.out HF1.out HF2.out (by rw [HVN.out]; exact HQ2.out) (by rw [HVN.out]; exact HV2.out) HP2.out (by rw [HVN.out]; exact HM2.out) HSn10.out
  have hlne : l10 ≠ [] := by
    intro e
    have := congrArg List.length e
    rw [HN10.out] at this
    simp at this
  have HWR := Lib.hid (bufWrite_any b bv bl l10 (.slice a10 l10.length c10) w10.drew (show BufW w10.drew b bv bl from hbb.1.fr (Fr.refl [] w10).drew List.not_mem_nil (fun _ _ => List.not_mem_nil)) (show Own w10.drew 5 _ l10 from HSn10.out.own) hlne hbb.2 (by omega))
  have HLN := Lib.hid hlne
  clear hbb hlne
  go_cut [8, 9] from 8 to 76 (fun _ x9 wx => x9 = .nilIface ∧ Hid (WrQ w10 b bv bl l10 wx))
  case first =>
    refine wp_region_noPanic ?_
    go_region_law (go_simp; go_at_call 205; refine HWR.out.mono ?_; rintro e wy ⟨rfl, hwr⟩; have HWQ := Lib.hid (WrQ.pre (Fr.refl [] w10).drew hwr); clear hwr)
    all_goals
      refine NoPanic.normal ?_
      go_wp2_with fail
      go_meet
      exact ⟨rfl, HWQ⟩
  obtain ⟨rfl, HWQ⟩ := hcut
  obtain ⟨wy, hwy⟩ : ∃ x, x = wc := ⟨_, rfl⟩
  subst hwy
  go_wp2_with fail
  obtain ⟨gk, rfl, hkc⟩ := own_row HSn10.out.own HLN.out
  obtain ⟨u5, hu5, hO5, hq5, hqb5, hpb5, hpq5⟩ := mq_put HM.out HF1.out HF2.out (by rw [HVN.out]; exact HQ2.out) (by rw [HVN.out]; exact HV2.out) HP2.out (by rw [HVN.out]; exact HM2.out) HSn10.out HWQ.out
  refine leaves_cons (f := 40) (args := #[.pointer (some ⟨bp, 0, none⟩), .pointer (some ⟨q, 0, none⟩)]) (by simp) (by simp [go_sem]) ?_
  refine (put_anyD .returning bp q gk l10.length c10 u5 pv' 0 [] wy hu5 hO5 (by omega) hq5 hkc hqb5 hpb5 hpq5).mono ?_
  rintro e u' w16 ⟨rfl, rfl, hpq⟩
  have hend := mq_end HM.out HF1.out HF2.out (by rw [HVN.out]; exact HQ2.out) (by rw [HVN.out]; exact HV2.out) HP2.out HPB2.out (by rw [HVN.out]; exact HM2.out) HSn10.out HWQ.out hpq
  rw [HL10.out, HL9.out, HL8.out, HL7.out, HL6.out] at hend
  have HEND := Lib.hid hend
  clear hend hpq
  simp [Leaves, settle, results, Tryz.results33, go_sem]
  simpa using HEND.out
end Go.Proofs.YtpkkgngpjeoffaaGreatDoor
