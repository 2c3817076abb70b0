/- PROVED HERE: a part of round r2's proofs (text HdrT): lemmas and walks that later texts use. CONDITIONS: those written ahead of each theorem. -/
import Derived.Test.YtpkkgngpjeoffaaGreatDoorMqT
import Derived.Lib.SlBytesConst
namespace Go.Proofs.YtpkkgngpjeoffaaGreatDoor
open Go.RowKit

theorem hsize_any (w : World) : Calls Tryz.prog 69 #[] w fun e w' => ∃ g, e = .returned (.slice (some ⟨g, 0, none⟩) 1 1) ∧ Fr [] w w' ∧ w'.cell? ⟨g, 0, none⟩ = some (.int .u8 ((63 : UInt8).toNat : Int)) ∧ w.heap.size ≤ g := by
  have hcv := Lib.run_convert_bytes_const (P := Tryz.prog) w 42 5 #[.int .u8 63] 1 1 u42 Tryz.underlying5
  go_enter Tryz.func69, Tryz.ntmps69
  go_wp2_with fail
  go_ret
  exact ⟨_, rfl, (Fr.refl [] w).alloc _, cell_of_row _ w.heap.size 0 #[.int .u8 63] 5 _ (heap_alloc_new w _), Nat.le_refl _⟩
/-- append of bytes at a step of a region that draws, of whatever source. -/
theorem stepAppS (w : World) {ops : Array Oper} {o : Oper} {a : Act} {K : Act → World → Prop} {Q : Exit → Act → World → Prop} {E : Prop}
    (hg : o.guard = none) (s x : Operand) (hop : o.op = Op.call { callee := Callee.builtin Builtin.append, args := #[s, x], argTypes := #[42, 42] })
    (v : Value) (l m : List UInt8) (xv : Value) (hv : a.eval s = v) (hx : a.eval x = xv) (hown : Own w 5 v l) (hxo : Src Tryz.prog 1 42 xv m.length (bvs m) w) (hlen : l.length + m.length ≤ 70368744177664)
    (hK : ∀ v' w', Own w' 5 v' (l ++ m) → Stp w w' v v' → K (a.put o.dst v') w') :
    if Region.wanted o (yielded ops a.tmps) = true then Oper.wp Tryz.prog o a w K Q else E := by
  have hw : Region.wanted o (yielded ops a.tmps) = true := by simp [Region.wanted, hg]
  rw [if_pos hw]
  obtain ⟨i5, hi, hz0, hz1, hz2⟩ := info_parts Tryz.info5
  obtain ⟨v', w', hrun, r1, r2, r3⟩ := run_append_b (P := Tryz.prog) w 42 42 o.type 5 i5 _ u42 hi hz0 hz1 hz2 rfl v l m xv hown hxo hlen
  unfold Oper.wp
  simp [execOp, hop, resolve, invoke, builtin, hv, hx, hrun, Result.andThen]
  exact hK v' w' r1 ⟨r2, r3.imp_right fun h => ⟨_, h, Nat.le_refl _⟩⟩
set_option maxRecDepth 100000 in
set_option maxHeartbeats 4000000 in
theorem hdr_any (o bp b : Nat) (pv : Value) (po : Option (Nat × Value)) (bv : Value) (bl : List UInt8) (w : World) (hM : Mach w o bp b pv po bv bl) (hlim : bl.length ≤ 100000000) :
    Calls Tryz.prog 33 #[.agg #[.slice none 0 0, .bool true], .iface 56 (.pointer (some ⟨b, 0, none⟩)), .pointer (some ⟨o, 0, none⟩)] w fun e w' => e = .returned .nilIface ∧ MQ w o bp b pv po bv bl [36, 63, 13, 10] w' := by
  have HM := Lib.hid hM
  obtain ⟨⟨c2, c3, c4, hOp⟩, hPl, hBf, hAp⟩ := hM
  have hGet : ∀ W, Fr [] w W → Calls Tryz.prog 39 #[.pointer (some ⟨bp, 0, none⟩)] W (GetQ W bp pv po) := fun W hF => get_any bp pv po W (hPl.fr0 hF)
  have p0 : ∀ x, (w.alloc x).cell? ⟨o, 0, none⟩ = some (.func (.func 39) #[.pointer (some ⟨bp, 0, none⟩)] #[]) := fun x => cell_of_row (w.alloc x) o 0 _ 94 _ (((Fr.refl [] w).alloc x).blk hOp List.not_mem_nil)
  have HGET := Lib.hid hGet
  have HOP := Lib.hid hOp
  have HPL := Lib.hid hPl
  obtain ⟨w1, hw1⟩ : ∃ w1, w1 = w.alloc (.cells #[.slice none 0 0, .bool true] 86) := ⟨_, rfl⟩
  have hf1 : Fr [] w w1 := by rw [hw1]; exact (Fr.refl [] w).alloc _
  have hx1 : w1.heap[w.heap.size]? = some (.cells #[.slice none 0 0, .bool true] 86 (0, 0)) := by rw [hw1]; exact heap_alloc_new _ _
  have HF1 := Lib.hid hf1
  have HX1 := Lib.hid hx1
  have HW1 := Lib.hid hw1
  clear hGet hOp hBf hPl hAp hf1 hx1 hw1
  have hme : ∀ W : World, (method 487 56 (.pointer (some ⟨b, 0, none⟩)) "Write").run Tryz.prog W = .ok (205, .pointer (some ⟨b, 0, none⟩)) W := fun _ => by kernel_rfl
  go_enter_defers Tryz.func33, Tryz.ntmps33
  go_upto_region 2 with (go_at_call 39; rw [← HW1.out]; refine (HGET.out _ HF1.out).mono ?_; rintro e w2 ⟨hf2, q, v, pv', rfl, hq2, hv2, hp2, hpb2, hm2⟩; have HF2 := Lib.hid hf2; have HQ2 := Lib.hid hq2; have HV2 := Lib.hid hv2; have HP2 := Lib.hid hp2; have HM2 := Lib.hid hm2; have HPB2 := Lib.hid hpb2; clear hf2 hq2 hv2 hp2 hm2 hpb2)
  clear p0
  have hbpo : bp ≠ o := by
    obtain ⟨u, hu⟩ := HPL.out.1
    exact ne_tag hu HOP.out (by decide)
  have hOp2 := HF2.out.blk (HF1.out.blk HOP.out List.not_mem_nil) (by simp; exact fun e => hbpo e.symm)
  have p1 := cell_of_row w2 o 1 _ 94 _ hOp2
  have hx2 := HF2.out.blk HX1.out (by
    obtain ⟨u, hu⟩ := HPL.out.1
    have := (Array.getElem?_eq_some_iff.1 hu).1
    simp; omega)
  obtain ⟨va, vc, hvv⟩ := own_shape HV2.out
  subst hvv
  have q0 := cell_of_row w2 q 0 _ 42 _ HQ2.out
  have hS2 : Sc w2 w2 q (.slice va (List.length ([] : List UInt8)) vc) (.slice va (List.length ([] : List UInt8)) vc) [] := ⟨Fr.refl _ _, HQ2.out, HV2.out, .inl rfl⟩
  have HS2 := Lib.hid hS2
  clear hS2
  obtain ⟨v, hvn⟩ : ∃ v, v = Value.slice va (List.length ([] : List UInt8)) vc := ⟨_, rfl⟩
  rw [← hvn] at HS2
  have HVN := Lib.hid hvn
  go_upto_region 4 with (at_builtin; refine wpApp1 w2 (o := ⟨some 25, _, _, _, _, _⟩) rfl (.tmp 23) (.tmp 24) rfl (.slice va (List.length ([] : List UInt8)) vc) [] _ 36 rfl rfl rfl HV2.out (by simp) ?_; intro v5 w5 ho5 hs5; obtain ⟨a5, c5, rfl⟩ := own_shape ho5; have HR5 := Lib.hid (hs5.1.blk HQ2.out (fun hm => HS2.out.ne (by rw [HVN.out]; simpa using hm))); have r5 := cell_of_row w5 q 0 _ 42 _ HR5.out; have f5 := frozen_of_row w5 q 0 _ 42 HR5.out; have HO5 := Lib.hid ho5; have HT5 := Lib.hid hs5; clear ho5 hs5)
  obtain ⟨w6, hw6⟩ : ∃ x, x = w5.setCell ⟨q, 0, none⟩ (.slice a5 ([] ++ [(36 : UInt8)]).length c5) := ⟨_, rfl⟩
  have hS6 : Sc w2 w6 q v (.slice a5 ([] ++ [(36 : UInt8)]).length c5) [36] := by rw [hw6]; exact HS2.out.app (by rw [HVN.out]; exact HT5.out) HO5.out
  have HW6 := Lib.hid hw6
  have HS6 := Lib.hid hS6
  clear hw6 hS6 r5 f5
  have hw6e : w5.setCell ⟨q, 0, none⟩ (.slice a5 1 c5) = w6 := HW6.out.symm
  rw [hw6e]
  clear hw6e
  have q0 := cell_of_row w6 q 0 _ 42 _ HS6.out.row
  have hxq : w.heap.size ≠ q := ne_tag hx2 HQ2.out (by decide)
  have hxv : w.heap.size ∉ v.ownBlock.toList := by
    intro hm
    rw [HVN.out] at hm
    obtain ⟨cc', x', hr⟩ := own_tag HV2.out (g := w.heap.size) (by simpa using hm)
    exact ne_tag hx2 hr (by decide) rfl
  have hx6 := HS6.out.fr.blk hx2 (by simp; exact ⟨hxq, fun h => hxv (by simpa using h)⟩)
  have x1 := cell_of_row w6 w.heap.size 1 _ 86 _ hx6
  go_upto_region 5 with fail
  have HS7 : Hid (Sc w2 w6 q v (.slice a5 1 c5) [36]) := Lib.hid HS6.out
  obtain ⟨l8, hl8⟩ : ∃ l : List UInt8, l = [36] ++ [63] := ⟨_, rfl⟩
  have HL8 := Lib.hid hl8
  have hn8 : l8.length = 2 := by rw [hl8]; rfl
  have HN8 := Lib.hid hn8
  clear hl8 hn8
  go_cut [34] from 29 to 35 (fun x wx => CutQ w2 q v l8 x wx)
  case first =>
    refine wp_region_noPanic ?_
    go_region_law (first
      | (go_simp; go_at_call 69; refine (hsize_any _).mono ?_; rintro e wd ⟨dg, rfl, hfd, hdd, hgd⟩; have HSd := Lib.hid (HS7.out.fr0 ((Fr.refl [] w6).drew.trans hfd)); have HDd := Lib.hid hdd; have rd := cell_of_row wd q 0 _ 42 _ HSd.out.row; clear hfd hdd)
      | (refine stepAppS wd (by rfl) _ _ (by rfl) (.slice a5 1 c5) [36] [63] (.slice (some ⟨dg, 0, none⟩) 1 1) (by rfl) (by rfl) HSd.out.own (srcOne wd 63 dg 1 HDd.out) (by decide) ?_; intro vz wz hoz hsz; obtain ⟨az, cz, rfl⟩ := own_shape hoz; have HRz := Lib.hid (hsz.1.blk HSd.out.row (fun hm => HSd.out.ne (by simpa using hm))); have rz := cell_of_row wz q 0 _ 42 _ HRz.out; have fz := frozen_of_row wz q 0 _ 42 HRz.out; have HOz := Lib.hid hoz; have HTz := Lib.hid hsz; clear hoz hsz))
    all_goals
      refine NoPanic.normal ?_
      go_wp2_with fail
      go_meet
      have hh := HSd.out.app HTz.out HOz.out
      rw [← HL8.out] at hh
      exact ⟨az, cz, by rw [HN8.out], by rw [← HN8.out]; exact hh⟩
  obtain ⟨a8, c8, rfl, hSn⟩ := hcut
  obtain ⟨w8, hwn⟩ : ∃ x, x = wc := ⟨_, rfl⟩
  subst hwn
  have HS8 := Lib.hid hSn
  clear hSn q0
  have q0 := cell_of_row w8 q 0 _ 42 _ HS8.out.row
  have hlen8 : l8.length ≤ 10 := by rw [HN8.out]; decide
  go_upto_region 9 with fail
  obtain ⟨l10, hl10⟩ : ∃ l : List UInt8, l = l8 ++ [13, 10] := ⟨_, rfl⟩
  have HL10 := Lib.hid hl10
  have hn10 : l10.length = l8.length + 2 := by rw [hl10]; simp
  have HN10 := Lib.hid hn10
  clear hl10 hn10
  go_cut [65] from 60 to 66 (fun x wx => CutQ w2 q v l10 x wx)
  case first =>
    refine wp_region_noPanic ?_
    go_region_law (first
      | (go_simp; go_at_call 71; refine (delim_any _).mono ?_; rintro e wd ⟨dg, rfl, hfd, hdd, hgd⟩; have HSd := Lib.hid (HS8.out.fr0 ((Fr.refl [] w8).drew.trans hfd)); have HDd := Lib.hid hdd; have rd := cell_of_row wd q 0 _ 42 _ HSd.out.row; clear hfd hdd)
      | (refine stepAppB wd (by rfl) _ _ (by rfl) (.slice a8 l8.length c8) l8 [13, 10] (.slice (some ⟨dg, 0, none⟩) 2 2) (by rfl) (by rfl) HSd.out.own HDd.out (by simp; omega) ?_; intro vz wz hoz hsz; obtain ⟨az, cz, rfl⟩ := own_shape hoz; have HRz := Lib.hid (hsz.1.blk HSd.out.row (fun hm => HSd.out.ne (by simpa using hm))); have rz := cell_of_row wz q 0 _ 42 _ HRz.out; have fz := frozen_of_row wz q 0 _ 42 HRz.out; have HOz := Lib.hid hoz; have HTz := Lib.hid hsz; clear hoz hsz))
    all_goals
      refine NoPanic.normal ?_
      go_wp2_with fail
      go_meet
      have hh := HSd.out.app HTz.out HOz.out
      rw [← HL10.out] at hh
      exact ⟨az, cz, by rw [HN10.out], by rw [← HN10.out]; exact hh⟩
  obtain ⟨a10, c10, rfl, hSn⟩ := hcut
  obtain ⟨w10, hwn⟩ : ∃ x, x = wc := ⟨_, rfl⟩
  subst hwn
  have HS10 := Lib.hid hSn
  clear hSn q0
  have q0 := cell_of_row w10 q 0 _ 42 _ HS10.out.row
  go_upto_region 10 with fail
  have hbb := mq_buf HM.out HF1.out HF2.out (by rw [HVN.out]; exact HQ2.out) (by rw [HVN.out]; exact HV2.out) HP2.out (by rw [HVN.out]; exact HM2.out) HS10.out
  have hlne : l10 ≠ [] := by
    intro e
    have := congrArg List.length e
    rw [HN10.out] at this
    simp at this
  have hlen10 : l10.length ≤ 50 := by rw [HN10.out]; omega
  have HWR := Lib.hid (bufWrite_any b bv bl l10 (.slice a10 l10.length c10) w10.drew (show BufW w10.drew b bv bl from hbb.1.fr (Fr.refl [] w10).drew List.not_mem_nil (fun _ _ => List.not_mem_nil)) (show Own w10.drew 5 _ l10 from HS10.out.own) hlne hbb.2 (by omega))
  have HLN := Lib.hid hlne
  clear hbb hlne
  go_cut [8, 9] from 8 to 76 (fun _ x9 wx => x9 = .nilIface ∧ Hid (WrQ w10 b bv bl l10 wx))
  case first =>
    refine wp_region_noPanic ?_
    go_region_law (go_simp; go_at_call 205; refine HWR.out.mono ?_; rintro e w15 ⟨rfl, hwr⟩; have HWQ := Lib.hid (WrQ.pre (Fr.refl [] w10).drew hwr); clear hwr)
    all_goals
      refine NoPanic.normal ?_
      go_wp2_with fail
      go_meet
      exact ⟨rfl, HWQ⟩
  obtain ⟨rfl, HWQ⟩ := hcut
  obtain ⟨w15, hw15⟩ : ∃ x, x = wc := ⟨_, rfl⟩
  subst hw15
  go_wp2_with fail
  obtain ⟨gk, rfl, hkc⟩ := own_row HS10.out.own HLN.out
  obtain ⟨u5, hu5, hO5, hq5, hqb5, hpb5, hpq5⟩ := mq_put HM.out HF1.out HF2.out (by rw [HVN.out]; exact HQ2.out) (by rw [HVN.out]; exact HV2.out) HP2.out (by rw [HVN.out]; exact HM2.out) HS10.out HWQ.out
  refine leaves_cons (f := 40) (args := #[.pointer (some ⟨bp, 0, none⟩), .pointer (some ⟨q, 0, none⟩)]) (by simp) (by simp [go_sem]) ?_
  refine (put_anyD .returning bp q gk l10.length c10 u5 pv' 0 [] w15 hu5 hO5 (by omega) hq5 hkc hqb5 hpb5 hpq5).mono ?_
  rintro e u' w16 ⟨rfl, rfl, hpq⟩
  have hend := mq_end HM.out HF1.out HF2.out (by rw [HVN.out]; exact HQ2.out) (by rw [HVN.out]; exact HV2.out) HP2.out HPB2.out (by rw [HVN.out]; exact HM2.out) HS10.out HWQ.out hpq
  rw [HL10.out, HL8.out] at hend
  have HEND := Lib.hid hend
  clear hend hpq
  simp [Leaves, settle, results, Tryz.results33, go_sem]
  simpa using HEND.out
end Go.Proofs.YtpkkgngpjeoffaaGreatDoor
