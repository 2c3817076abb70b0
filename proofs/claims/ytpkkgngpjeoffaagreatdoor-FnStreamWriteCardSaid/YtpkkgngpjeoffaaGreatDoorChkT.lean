/- PROVED HERE: a part of round r2's proofs (text ChkT): lemmas and walks that later texts use. CONDITIONS: those written ahead of each theorem. -/
import Derived.Test.YtpkkgngpjeoffaaGreatDoorMqT
namespace Go.Proofs.YtpkkgngpjeoffaaGreatDoor
open Go.RowKit

set_option maxRecDepth 100000 in
set_option maxHeartbeats 4000000 in
theorem chunk_any {B : Nat} {ea : Addr} (o bp b : Nat) (pv : Value) (po : Option (Nat × Value)) (bv cv : Value) (bl c : List UInt8) (w : World) (hG : Gv B ea w) (hM : Mach w o bp b pv po bv bl) (hB : ∀ s, s ∈ mblk bp b pv po bv → B ≤ s)
    (hc : Own w 5 cv c) (hcs : ∀ g, cv.ownBlock = some g → g ∉ mblk bp b pv po bv) (hlim : bl.length + c.length ≤ 100000000) :
    Calls Tryz.prog 36 #[.agg #[cv], .iface 56 (.pointer (some ⟨b, 0, none⟩)), .pointer (some ⟨o, 0, none⟩)] w fun e w' => e = .returned .nilIface ∧ MQ w o bp b pv po bv bl (59 :: (Lib.decDigits c.length ++ [13, 10] ++ if c = [] then [] else c ++ [13, 10])) w' := by
  have HM := Lib.hid hM
  obtain ⟨⟨c2, c3, c4, hOp⟩, hPl, hBf, hAp⟩ := hM
  have o0 := cell_of_row w o 0 _ 94 _ hOp
  have o1 := cell_of_row w o 1 _ 94 _ hOp
  have hGet : ∀ W, Fr [] w W → Calls Tryz.prog 39 #[.pointer (some ⟨bp, 0, none⟩)] W (GetQ W bp pv po) := fun W hF => get_any bp pv po W (hPl.fr0 hF)
  have p0 : ∀ x, (w.alloc x).cell? ⟨o, 0, none⟩ = some (.func (.func 39) #[.pointer (some ⟨bp, 0, none⟩)] #[]) := fun x => cell_of_row (w.alloc x) o 0 _ 94 _ (((Fr.refl [] w).alloc x).blk hOp List.not_mem_nil)
  clear o0 o1
  have HGET := Lib.hid hGet
  have HOP := Lib.hid hOp
  have HBF := Lib.hid hBf
  have HPL := Lib.hid hPl
  have HCV := Lib.hid hc
  have HGG := Lib.hid hG
  have HAP := Lib.hid hAp
  have HCS := Lib.hid hcs
  have HBB := Lib.hid hB
  obtain ⟨w1, hw1⟩ : ∃ w1, w1 = w.alloc (.cells #[cv] 100) := ⟨_, rfl⟩
  have hf1 : Fr [] w w1 := by rw [hw1]; exact (Fr.refl [] w).alloc _
  have hx1 : w1.heap[w.heap.size]? = some (.cells #[cv] 100 (0, 0)) := by rw [hw1]; exact heap_alloc_new _ _
  have HF1 := Lib.hid hf1
  have HX1 := Lib.hid hx1
  have HW1 := Lib.hid hw1
  clear hGet hOp hBf hPl hc hG hAp hcs hB hf1 hx1 hw1
  have hme : ∀ W : World, (method 487 56 (.pointer (some ⟨b, 0, none⟩)) "Write").run Tryz.prog W = .ok (205, .pointer (some ⟨b, 0, none⟩)) W := fun _ => by kernel_rfl
  go_enter_defers Tryz.func36, Tryz.ntmps36
  go_upto_region 2 with (go_at_call 39; rw [← HW1.out]; refine (HGET.out _ HF1.out).mono ?_; rintro e w2 ⟨hf2, q, v, pv', rfl, hq2, hv2, hp2, hpb2, hm2⟩; have HF2 := Lib.hid hf2; have HQ2 := Lib.hid hq2; have HV2 := Lib.hid hv2; have HP2 := Lib.hid hp2; have HM2 := Lib.hid hm2; have HPB2 := Lib.hid hpb2; clear hf2 hq2 hv2 hp2 hm2 hpb2)
  clear p0
  have hbpo : bp ≠ o := by
    obtain ⟨u, hu⟩ := HPL.out.1
    exact ne_tag hu HOP.out (by decide)
  have hOp2 := HF2.out.blk (HF1.out.blk HOP.out List.not_mem_nil) (by simp; exact fun e => hbpo e.symm)
  have p1 := cell_of_row w2 o 1 _ 94 _ hOp2
  have hx2 := HF2.out.blk HX1.out (by
    obtain ⟨u, hu⟩ := HPL.out.1
    have := (Array.getElem?_eq_some_iff.1 hu).1
    simp; omega)
  have x0 := cell_of_row w2 w.heap.size 0 _ 100 _ hx2
  obtain ⟨ca, cc, hcv⟩ := own_shape HCV.out
  subst hcv
  obtain ⟨va, vc, hvv⟩ := own_shape HV2.out
  subst hvv
  have q0 := cell_of_row w2 q 0 _ 42 _ HQ2.out
  have hS2 : Sc w2 w2 q (.slice va (List.length ([] : List UInt8)) vc) (.slice va (List.length ([] : List UInt8)) vc) [] := ⟨Fr.refl _ _, HQ2.out, HV2.out, .inl rfl⟩
  have HS2 := Lib.hid hS2
  clear hS2
  obtain ⟨v, hvn⟩ : ∃ v, v = Value.slice va (List.length ([] : List UInt8)) vc := ⟨_, rfl⟩
  rw [← hvn] at HS2
  have HVN := Lib.hid hvn
  go_upto_region 5 with (at_builtin; refine wpApp1 w2 (o := ⟨some 29, _, _, _, _, _⟩) rfl (.tmp 27) (.tmp 28) rfl (.slice va (List.length ([] : List UInt8)) vc) [] _ 59 rfl rfl rfl HV2.out (by simp) ?_; intro v5 w5 ho5 hs5; obtain ⟨a5, c5, rfl⟩ := own_shape ho5; have HR5 := Lib.hid (hs5.1.blk HQ2.out (fun hm => HS2.out.ne (by rw [HVN.out]; simpa using hm))); have r5 := cell_of_row w5 q 0 _ 42 _ HR5.out; have f5 := frozen_of_row w5 q 0 _ 42 HR5.out; have HO5 := Lib.hid ho5; have HT5 := Lib.hid hs5; clear ho5 hs5)
  obtain ⟨w6, hw6⟩ : ∃ x, x = w5.setCell ⟨q, 0, none⟩ (.slice a5 ([] ++ [(59 : UInt8)]).length c5) := ⟨_, rfl⟩
  have hS6 : Sc w2 w6 q v (.slice a5 ([] ++ [(59 : UInt8)]).length c5) [59] := by rw [hw6]; exact HS2.out.app (by rw [HVN.out]; exact HT5.out) HO5.out
  have HW6 := Lib.hid hw6
  have HS6 := Lib.hid hS6
  clear hw6 hS6 r5 f5
  have hw6e : w5.setCell ⟨q, 0, none⟩ (.slice a5 1 c5) = w6 := HW6.out.symm
  rw [hw6e]
  clear hw6e
  have q0 := cell_of_row w6 q 0 _ 42 _ HS6.out.row
  have hin := got_in (w := w) (w1 := w1) (bp := bp) (b := b) (pv := pv) (bv := bv) (po := po) (q := q) (v := v) (by rw [HVN.out]; exact HM2.out) HF1.out.size
  have hSb0 : ∀ s, s ∈ q :: v.ownBlock.toList → B ≤ s := by
    intro s hs
    rcases hin s hs with h | h
    · exact HBB.out s h
    · exact Nat.le_trans HGG.out.big h
  have hBv : ∀ g, v.ownBlock = some g → B ≤ g := fun g hg => hSb0 g (by simp [hg])
  have HBV := Lib.hid hBv
  clear hBv
  have hSb := hSb0
  clear hin hSb0
  have HSB := Lib.hid hSb
  clear hSb
  have HG2 := Lib.hid (show Gv B ea w2 from (HGG.out.fr HF1.out (fun _ h => by cases h)).fr HF2.out (fun s hs => by simp at hs; subst hs; exact HBB.out _ (by simp [mblk])))
  have hcl : (c.length : Int) ≤ 100000000 := by omega
  have hL7 : ([59] ++ Lib.itoa (c.length : Int)).length ≤ 30 := by
    have := Lib.itoa_length_le (c.length : Int) (by omega) (by omega)
    simp
    omega
  obtain ⟨l7, hl7⟩ : ∃ l, l = [59] ++ Lib.itoa (c.length : Int) := ⟨_, rfl⟩
  rw [← hl7] at hL7
  have HL7 := Lib.hid hl7
  clear hl7
  go_upto_region 6 with (go_at_call 70; refine (appendInt_any (c.length : Int) (by omega) (by omega) _ [59] w6 (HG2.out.fr HS6.out.fr HSB.out) HS6.out.own (by simp) (HS6.out.base HBV.out HG2.out.big)).mono ?_; rintro e w7 ⟨v7, rfl, ho7, hs7⟩; rw [← HL7.out] at ho7; obtain ⟨a7, c7, rfl⟩ := own_shape ho7; have HR7 := Lib.hid (hs7.1.blk HS6.out.row (fun hm => HS6.out.ne (by simpa using hm))); have r7 := cell_of_row w7 q 0 _ 42 _ HR7.out; have f7 := frozen_of_row w7 q 0 _ 42 HR7.out; have HO7 := Lib.hid ho7; have HT7 := Lib.hid hs7; clear ho7 hs7)
  obtain ⟨w8, hw8⟩ : ∃ x, x = w7.setCell ⟨q, 0, none⟩ (.slice a7 l7.length c7) := ⟨_, rfl⟩
  rw [← hw8]
  have HS8 : Hid (Sc w2 w8 q v (.slice a7 l7.length c7) l7) := Lib.hid (by rw [hw8]; exact HS6.out.app HT7.out HO7.out)
  clear hw8 r7 f7 q0
  have q0 := cell_of_row w8 q 0 _ 42 _ HS8.out.row
  obtain ⟨l10, hl10⟩ : ∃ l, l = l7 ++ [13, 10] := ⟨_, rfl⟩
  have HL10 := Lib.hid hl10
  have hn10 : l10.length = l7.length + 2 := by rw [hl10]; simp
  have HN10 := Lib.hid hn10
  clear hl10 hn10
  go_cut [43] from 38 to 44 (fun x43 wx => CutQ w2 q v l10 x43 wx)
  case first =>
    refine wp_region_noPanic ?_
    go_region_law (first
      | (go_simp; go_at_call 71; refine (delim_any _).mono ?_; rintro e w9 ⟨dg, rfl, hf9, hd9, hg9⟩; have HS9 := Lib.hid (HS8.out.fr0 ((Fr.refl [] w8).drew.trans hf9)); have HD9 := Lib.hid hd9; have r9 := cell_of_row w9 q 0 _ 42 _ HS9.out.row; clear hf9 hd9)
      | (refine stepAppB w9 (by rfl) _ _ (by rfl) (.slice a7 l7.length c7) l7 [13, 10] (.slice (some ⟨dg, 0, none⟩) 2 2) (by rfl) (by rfl) HS9.out.own HD9.out (by simp; omega) ?_; intro v10 w10 ho10 hs10; obtain ⟨a10, c10, rfl⟩ := own_shape ho10; have HR10 := Lib.hid (hs10.1.blk HS9.out.row (fun hm => HS9.out.ne (by simpa using hm))); have r10 := cell_of_row w10 q 0 _ 42 _ HR10.out; have f10 := frozen_of_row w10 q 0 _ 42 HR10.out; have HO10 := Lib.hid ho10; have HT10 := Lib.hid hs10; clear ho10 hs10))
    all_goals
      refine NoPanic.normal ?_
      go_wp2_with fail
      go_meet
      have hh := HS9.out.app HT10.out HO10.out
      rw [← HL10.out] at hh
      exact ⟨a10, c10, by rw [HN10.out], by rw [← HN10.out]; exact hh⟩
  obtain ⟨a10, c10, rfl, hS10⟩ := hcut
  obtain ⟨w10, hw10⟩ : ∃ x, x = wc := ⟨_, rfl⟩
  subst hw10
  have HS10 := Lib.hid hS10
  clear hS10 x0 q0
  have hxq : w.heap.size ≠ q := ne_tag hx2 HQ2.out (by decide)
  have hxv : w.heap.size ∉ v.ownBlock.toList := by
    intro hm
    rw [HVN.out] at hm
    obtain ⟨cc', x', hr⟩ := own_tag HV2.out (g := w.heap.size) (by simpa using hm)
    exact ne_tag hx2 hr (by decide) rfl
  have hx10 := HS10.out.fr.blk hx2 (by simp; exact ⟨hxq, fun h => hxv (by simpa using h)⟩)
  have x0 := cell_of_row w10 w.heap.size 0 _ 100 _ hx10
  have q0 := cell_of_row w10 q 0 _ 42 _ HS10.out.row
  have hcv10 : Own w10 5 (.slice ca c.length cc) c := own_besides HCV.out HCS.out HF1.out HF2.out (by rw [HVN.out]; exact HM2.out) HS10.out
  have HC10 := Lib.hid hcv10
  clear hcv10
  by_cases hcn : c = []
  case pos =>
    have hcl0 : c.length = 0 := by rw [hcn]; rfl
    subst hcn
    go_upto_region 10 with fail
    have hbb := mq_buf HM.out HF1.out HF2.out (by rw [HVN.out]; exact HQ2.out) (by rw [HVN.out]; exact HV2.out) HP2.out (by rw [HVN.out]; exact HM2.out) HS10.out
    have hlne : l10 ≠ [] := by
      intro e
      have := congrArg List.length e
      rw [HN10.out] at this
      simp at this
    have hlen10 : l10.length ≤ 40 := by rw [HN10.out]; omega
    have HWR := Lib.hid (bufWrite_any b bv bl l10 (.slice a10 l10.length c10) w10.drew (show BufW w10.drew b bv bl from hbb.1.fr (Fr.refl [] w10).drew List.not_mem_nil (fun _ _ => List.not_mem_nil)) (show Own w10.drew 5 _ l10 from HS10.out.own) hlne hbb.2 (by omega))
    have HLN := Lib.hid hlne
    clear hbb hlne
    go_cut [9, 10] from 9 to 71 (fun _ x10 wx => x10 = .nilIface ∧ Hid (WrQ w10 b bv bl l10 wx))
    case first =>
      refine wp_region_noPanic ?_
      go_region_law (go_simp; go_at_call 205; refine HWR.out.mono ?_; rintro e w15 ⟨rfl, hwr⟩; have HWQ := Lib.hid (WrQ.pre (Fr.refl [] w10).drew hwr); clear hwr)
      all_goals
        refine NoPanic.normal ?_
        go_wp2_with fail
        go_meet
        exact ⟨rfl, HWQ⟩
    obtain ⟨rfl, HWQ⟩ := hcut
    obtain ⟨w15, hw15⟩ : ∃ x, x = wc := ⟨_, rfl⟩
    subst hw15
    go_wp2_with fail
    obtain ⟨gk, rfl, hkc⟩ := own_row HS10.out.own HLN.out
    obtain ⟨u5, hu5, hO5, hq5, hqb5, hpb5, hpq5⟩ := mq_put HM.out HF1.out HF2.out (by rw [HVN.out]; exact HQ2.out) (by rw [HVN.out]; exact HV2.out) HP2.out (by rw [HVN.out]; exact HM2.out) HS10.out HWQ.out
    refine leaves_cons (f := 40) (args := #[.pointer (some ⟨bp, 0, none⟩), .pointer (some ⟨q, 0, none⟩)]) (by simp) (by simp [go_sem]) ?_
    refine (put_anyD .returning bp q gk l10.length c10 u5 pv' 0 [] w15 hu5 hO5 (by omega) hq5 hkc hqb5 hpb5 hpq5).mono ?_
    rintro e u' w16 ⟨rfl, rfl, hpq⟩
    have hend := mq_end HM.out HF1.out HF2.out (by rw [HVN.out]; exact HQ2.out) (by rw [HVN.out]; exact HV2.out) HP2.out HPB2.out (by rw [HVN.out]; exact HM2.out) HS10.out HWQ.out hpq
    rw [HL10.out, HL7.out] at hend
    have HEND := Lib.hid hend
    clear hend hpq
    simp [Leaves, settle, results, Tryz.results36, go_sem]
    simpa [show Lib.itoa 0 = Lib.decDigits 0 from rfl] using HEND.out
  have hc1 : 1 ≤ c.length := List.length_pos_iff.2 hcn
  have hcp : (0 : Int) < (c.length : Int) := by omega
  have hd1 : decide (0 < c.length) = true := decide_eq_true (by omega)
  have HCN := Lib.hid hcn
  clear hcn
  go_upto_region 8 with fail
  obtain ⟨l11, hl11⟩ : ∃ l, l = l10 ++ c := ⟨_, rfl⟩
  have HL11 := Lib.hid hl11
  have hn11 : l11.length = l10.length + c.length := by rw [hl11]; simp
  have HN11 := Lib.hid hn11
  have hlen10 : l10.length ≤ 40 := by rw [HN10.out]; omega
  clear hl11 hn11
  go_cut [53] from 47 to 54 (fun x wx => CutQ w2 q v l11 x wx)
  case first =>
    refine wp_region_noPanic ?_
    go_region_law (first
      | (refine stepAppB w10.drew (by rfl) _ _ (by rfl) (.slice a10 l10.length c10) l10 c (.slice ca c.length cc) (by rfl) (by rfl) (show Own w10.drew 5 _ l10 from HS10.out.own) (show Own w10.drew 5 _ c from HC10.out) (by omega) ?_; intro v12 w12 ho12 hs12; obtain ⟨a12, c12, rfl⟩ := own_shape ho12; have hs12' : Stp w10 w12 (.slice a10 l10.length c10) (.slice a12 (l10 ++ c).length c12) := Stp.pre ((Fr.refl [] w10).drew) hs12; have HR12 := Lib.hid (hs12'.1.blk HS10.out.row (fun hm => HS10.out.ne (by simpa using hm))); have r12 := cell_of_row w12 q 0 _ 42 _ HR12.out; have f12 := frozen_of_row w12 q 0 _ 42 HR12.out; have HO12 := Lib.hid ho12; have HT12 := Lib.hid hs12'; clear ho12 hs12 hs12'))
    all_goals
      refine NoPanic.normal ?_
      go_wp2_with fail
      go_meet
      have hh := HS10.out.app HT12.out HO12.out
      rw [← HL11.out] at hh
      exact ⟨a12, c12, by rw [HN11.out], by rw [← HN11.out]; exact hh⟩
  obtain ⟨a12, c12, rfl, hS12⟩ := hcut
  obtain ⟨w12, hw12⟩ : ∃ x, x = wc := ⟨_, rfl⟩
  subst hw12
  have HS12 := Lib.hid hS12
  have hlen11 : l11.length ≤ 40 + c.length := by rw [HN11.out]; omega
  clear hS12 x0 q0
  have q0 := cell_of_row w12 q 0 _ 42 _ HS12.out.row
  obtain ⟨l13, hl13⟩ : ∃ l, l = l11 ++ [13, 10] := ⟨_, rfl⟩
  have HL13 := Lib.hid hl13
  have hn13 : l13.length = l11.length + 2 := by rw [hl13]; simp
  have HN13 := Lib.hid hn13
  clear hl13 hn13
  go_upto_region 9 with fail
  go_cut [60] from 55 to 61 (fun x wx => CutQ w2 q v l13 x wx)
  case first =>
    refine wp_region_noPanic ?_
    go_region_law (first
      | (go_simp; go_at_call 71; refine (delim_any _).mono ?_; rintro e w13 ⟨dg, rfl, hf13, hd13, hg13⟩; have HS13 := Lib.hid (HS12.out.fr0 ((Fr.refl [] w12).drew.trans hf13)); have HD13 := Lib.hid hd13; have r13 := cell_of_row w13 q 0 _ 42 _ HS13.out.row; clear hf13 hd13)
      | (refine stepAppB w13 (by rfl) _ _ (by rfl) (.slice a12 l11.length c12) l11 [13, 10] (.slice (some ⟨dg, 0, none⟩) 2 2) (by rfl) (by rfl) HS13.out.own HD13.out (by simp; omega) ?_; intro v14 w14 ho14 hs14; obtain ⟨a14, c14, rfl⟩ := own_shape ho14; have HR14 := Lib.hid (hs14.1.blk HS13.out.row (fun hm => HS13.out.ne (by simpa using hm))); have r14 := cell_of_row w14 q 0 _ 42 _ HR14.out; have f14 := frozen_of_row w14 q 0 _ 42 HR14.out; have HO14 := Lib.hid ho14; have HT14 := Lib.hid hs14; clear ho14 hs14))
    all_goals
      refine NoPanic.normal ?_
      go_wp2_with fail
      go_meet
      have hh := HS13.out.app HT14.out HO14.out
      rw [← HL13.out] at hh
      exact ⟨a14, c14, by rw [HN13.out], by rw [← HN13.out]; exact hh⟩
  obtain ⟨a14, c14, rfl, hS14⟩ := hcut
  obtain ⟨w14, hw14⟩ : ∃ x, x = wc := ⟨_, rfl⟩
  subst hw14
  have HS14 := Lib.hid hS14
  clear hS14 q0
  have q0 := cell_of_row w14 q 0 _ 42 _ HS14.out.row
  go_upto_region 10 with fail
  have hbb := mq_buf HM.out HF1.out HF2.out (by rw [HVN.out]; exact HQ2.out) (by rw [HVN.out]; exact HV2.out) HP2.out (by rw [HVN.out]; exact HM2.out) HS14.out
  have hlne : l13 ≠ [] := by
    intro e
    have := congrArg List.length e
    rw [HN13.out] at this
    simp at this
  have hlen13 : l13.length ≤ 50 + c.length := by rw [HN13.out]; omega
  have HWR := Lib.hid (bufWrite_any b bv bl l13 (.slice a14 l13.length c14) w14.drew (show BufW w14.drew b bv bl from hbb.1.fr (Fr.refl [] w14).drew List.not_mem_nil (fun _ _ => List.not_mem_nil)) (show Own w14.drew 5 _ l13 from HS14.out.own) hlne hbb.2 (by omega))
  have HLN := Lib.hid hlne
  clear hbb hlne
  go_cut [9, 10] from 9 to 71 (fun _ x10 wx => x10 = .nilIface ∧ Hid (WrQ w14 b bv bl l13 wx))
  case first =>
    refine wp_region_noPanic ?_
    go_region_law (go_simp; go_at_call 205; refine HWR.out.mono ?_; rintro e w15 ⟨rfl, hwr⟩; have HWQ := Lib.hid (WrQ.pre (Fr.refl [] w14).drew hwr); clear hwr)
    all_goals
      refine NoPanic.normal ?_
      go_wp2_with fail
      go_meet
      exact ⟨rfl, HWQ⟩
  obtain ⟨rfl, HWQ⟩ := hcut
  obtain ⟨w15, hw15⟩ : ∃ x, x = wc := ⟨_, rfl⟩
  subst hw15
  go_wp2_with fail
  obtain ⟨gk, rfl, hkc⟩ := own_row HS14.out.own HLN.out
  obtain ⟨u5, hu5, hO5, hq5, hqb5, hpb5, hpq5⟩ := mq_put HM.out HF1.out HF2.out (by rw [HVN.out]; exact HQ2.out) (by rw [HVN.out]; exact HV2.out) HP2.out (by rw [HVN.out]; exact HM2.out) HS14.out HWQ.out
  refine leaves_cons (f := 40) (args := #[.pointer (some ⟨bp, 0, none⟩), .pointer (some ⟨q, 0, none⟩)]) (by simp) (by simp [go_sem]) ?_
  refine (put_anyD .returning bp q gk l13.length c14 u5 pv' 0 [] w15 hu5 hO5 (by omega) hq5 hkc hqb5 hpb5 hpq5).mono ?_
  rintro e u' w16 ⟨rfl, rfl, hpq⟩
  have hend := mq_end HM.out HF1.out HF2.out (by rw [HVN.out]; exact HQ2.out) (by rw [HVN.out]; exact HV2.out) HP2.out HPB2.out (by rw [HVN.out]; exact HM2.out) HS14.out HWQ.out hpq
  rw [HL13.out, HL11.out, HL10.out, HL7.out, show Lib.itoa (c.length : Int) = Lib.decDigits c.length from by unfold Lib.itoa; rw [if_neg (by omega), Int.toNat_natCast]] at hend
  have HEND := Lib.hid hend
  clear hend hpq
  simp [Leaves, settle, results, Tryz.results36, go_sem]
  simpa using HEND.out
end Go.Proofs.YtpkkgngpjeoffaaGreatDoor
