import Derived.Test.YtaaogjhaokaggaaGreatDoorTimX
import Derived.Test.YtaaogjhaokaggaaGreatDoorEncF
namespace Go.Proofs.YtaaogjhaokaggaaGreatDoor
open Go.RowKit

/-- EndLine; t: none at the zero time, else the nanoseconds behind 1970. -/
def St.endl (st : St) (t : Option Int) : St :=
  if st.sec ≠ 2 then st.fail 1
  else match t with
    | none => if st.bad then { st with sec := 5 } else { st with sec := 5, buf := st.buf ++ [10] }
    | some n =>
      if n < -9223372036854775808 ∨ n > 9223372036854775807 then { st with sec := 5 }.fail 2
      else if st.bad then { st with sec := 5 }
      else { st with sec := 5, buf := st.buf ++ ([32] ++ Lib.itoa (if st.mul > 0 then n.tdiv st.mul else n) ++ [10]) }

/-- A time's variable. -/
def TBox (w : World) (g : Nat) (T : Int) : Prop := w.heap[g]? = some (.cells #[.int .u64 (T % 1000000000), .int .i64 (T / 1000000000), .pointer none] 153 (0, 0))
theorem TBox.c0 {w : World} {g : Nat} {T : Int} (h : TBox w g T) : w.cell? ⟨g, 0, none⟩ = some (.int .u64 (T % 1000000000)) := cell_of_row w _ 0 _ 153 _ h
theorem TBox.c1 {w : World} {g : Nat} {T : Int} (h : TBox w g T) : w.cell? ⟨g, 1, none⟩ = some (.int .i64 (T / 1000000000)) := cell_of_row w _ 1 _ 153 _ h
theorem TBox.c2 {w : World} {g : Nat} {T : Int} (h : TBox w g T) : w.cell? ⟨g, 2, none⟩ = some (.pointer none) := cell_of_row w _ 2 _ 153 _ h
theorem TBox.fr {w w' : World} {g : Nat} {T : Int} (h : TBox w g T) (f : Fr [] w w') : TBox w' g T := f.blk h (by simp)

theorem tdiv_range (N mu : Int) (h0 : -9223372036854775808 ≤ N) (h1 : N ≤ 9223372036854775807) (hm : mu > 0) : -9223372036854775808 ≤ N.tdiv mu ∧ N.tdiv mu ≤ 9223372036854775807 := by
  rcases Int.le_total 0 N with h | h
  · rw [Int.tdiv_eq_ediv_of_nonneg h]
    have h2 := Int.ediv_nonneg h (Int.le_of_lt hm)
    have h3 := Int.ediv_le_self mu h
    omega
  · have h4 : 0 ≤ -N := by omega
    have h5 : N.tdiv mu = -((-N).tdiv mu) := by rw [Int.neg_tdiv]; omega
    rw [h5, Int.tdiv_eq_ediv_of_nonneg h4]
    have h2 := Int.ediv_nonneg h4 (Int.le_of_lt hm)
    have h3 := Int.ediv_le_self mu h4
    omega
theorem tdiv_wrap (N mu : Int) (h0 : -9223372036854775808 ≤ N) (h1 : N ≤ 9223372036854775807) (hm : mu > 0) : wrap64 (N.tdiv mu) = N.tdiv mu := by
  have := tdiv_range N mu h0 h1 hm
  generalize N.tdiv mu = q at *
  unfold wrap64; omega

set_option maxHeartbeats 4000000 in
set_option maxRecDepth 100000 in
theorem endLine_any {B : Nat} {ea : Addr} (b : Nat) (st : St) (T : Int) (w0 : World) (hG : Gl B ea w0) (h : Enc B ea w0 b st) (hst : st.start ≤ st.buf.length) (hlen : st.buf.length ≤ 100000000) (hT0 : -1000000000000000000000000 ≤ T) (hT1 : T ≤ 1000000000000000000000000) :
    Calls Tryz.prog 122 #[.pointer (some ⟨b, 0, none⟩), .agg #[.int .u64 (T % 1000000000), .int .i64 (T / 1000000000), .pointer none]] w0 fun e w' => e = .returned (.tuple #[]) ∧ Mid B ea b (st.endl (if T = 0 then none else some (T - T70))) w0 w' := by
  obtain ⟨vb, vk, ve, pi, hE⟩ := h
  obtain ⟨w, hw⟩ : ∃ w, w = w0.alloc (.cells #[.int .u64 (T % 1000000000), .int .i64 (T / 1000000000), .pointer none] 153) := ⟨_, rfl⟩
  have hf0 : Fr [] w0 w := by rw [hw]; exact (Fr.refl _ _).alloc _
  have HBOX : Hid (TBox w w0.heap.size T) := Lib.hid (by rw [hw]; exact heap_alloc_new _ _)
  have HB0 : Hid (w0.heap.size ≠ b) := Lib.hid (fun e => by have := (Array.getElem?_eq_some_iff.1 hE.row).1; omega)
  have HVB : Hid (vb.ownBlock ≠ some w0.heap.size) := Lib.hid (fun e => by have := hE.obuf.lt _ e; omega)
  have hEw := hE.fr hf0
  have HG := Lib.hid (hG.frE (FrE.of (b := b) hf0))
  have HF00 := Lib.hid hf0
  have hbB := hE.low
  clear hG hE
  obtain ⟨⟨c0, c1, c2, c3, c4, c5, c6, c7, c8⟩, f0, f1, f2, f3, f4, f5, f6, f7, f8⟩ := hEw.row.all
  have HE0 := Lib.hid hEw; clear hEw
  have hbig := HG.out.big
  have HW := Lib.hid hw
  obtain ⟨R, hR⟩ : ∃ R, R = st.endl (if T = 0 then none else some (T - T70)) := ⟨_, rfl⟩
  rw [← hR]
  obtain ⟨sec, hsec⟩ : ∃ sec, sec = st.sec := ⟨_, rfl⟩
  rw [← hsec] at c3
  unfold St.endl at hR
  rw [← hsec] at hR
  have HSEC := Lib.hid hsec; clear hsec
  by_cases h2 : sec ≠ 2
  · have HR : Hid (R = st.fail 1) := Lib.hid (by rw [hR, if_pos h2])
    have hb2 : ((sec : Int) != 2) = true := by simp; omega
    clear hR h2 hf0
    go_enter Tryz.func122, Tryz.ntmps122
    go_upto_region 1 with fail
    rw [← HW.out]
    clear hw
    go_wp2_with (first
      | (go_at_call 115; refine (errNew_any (B := B) (ea := ea) _ _ hbig).mono ?_; rintro e w1 ⟨x, rfl, hx, hf1⟩)
      | (go_at_call 114; refine (setErr_any b st vb vk ve _ x 1 _ (HE0.out.fr hf1) hx hst).mono ?_; rintro e w2 ⟨rfl, ⟨ve', hE2⟩, hf2⟩))
    refine bodyPost_ret (results_none rfl _ _ _) rfl ?_
    exact ⟨rfl, ⟨_, _, _, _, by rw [HR.out]; exact hE2⟩, ((FrE.of HF00.out).trans (FrE.of hf1)).trans (FrE.self hbB hf2)⟩
  · obtain rfl : sec = 2 := by omega
    rw [if_neg h2] at hR
    obtain ⟨st1, hst1⟩ : ∃ x : St, x = { st with sec := 5 } := ⟨_, rfl⟩
    obtain ⟨w1, hw1⟩ : ∃ x, x = w.setCell ⟨b, 3, none⟩ (.int .u8 5) := ⟨_, rfl⟩
    have hE1 : EncC B ea w1 b st1 vb vk ve pi := by rw [hst1, hw1]; exact HE0.out.re ((Fr.refl [b] w).setCell (.inl (by simp)) _) _ pi (HE0.out.row.set 3 _) rfl rfl rfl
    have hF1 : FrE B b w w1 := by rw [hw1]; exact FrE.self hbB ((Fr.refl [b] w).setCell (.inl (by simp)) _)
    have HB1 : Hid (TBox w1 w0.heap.size T) := Lib.hid (by rw [hw1, TBox, heap_setCell_other _ _ _ _ (fun e => HB0.out (by simpa using e))]; exact HBOX.out)
    have hss : st1.start ≤ st1.buf.length := by rw [hst1]; exact hst
    have hsb : st1.buf = st.buf ∧ st1.bad = st.bad ∧ st1.mul = st.mul := by rw [hst1]; exact ⟨rfl, rfl, rfl⟩
    have HW1 := Lib.hid hw1
    have HE1 := Lib.hid hE1
    have HF1 := Lib.hid hF1
    have HSB := Lib.hid hsb
    have HGG1 := Lib.hid (HG.out.frE hF1)
    have HST1 := Lib.hid hst1
    clear hE1 hF1 hsb hw1 hst1 hf0
    go_enter Tryz.func122, Tryz.ntmps122
    go_upto_region 1 with fail
    rw [← HW.out]
    clear hw
    go_upto_region 4 with fail
    rw [← HW1.out]
    clear c0 c1 c2 c3 c4 c5 c6 c7 c8 f0 f1 f2 f3 f4 f5 f6 f7 f8
    obtain ⟨⟨c0, c1, c2, c3, c4, c5, c6, c7, c8⟩, f0, f1, f2, f3, f4, f5, f6, f7, f8⟩ := HE1.out.row.all
    have t0 := HB1.out.c0
    have t1 := HB1.out.c1
    have t2 := HB1.out.c2
    go_upto_if 18 with (go_at_call 151; refine (isZero_any T _).mono ?_; rintro e w2 ⟨rfl, hf2⟩)
    clear c0 c1 c2 c3 c4 c5 c6 c7 c8 f0 f1 f2 f3 f4 f5 f6 f7 f8 t0 t1 t2
    have HE2 := Lib.hid (HE1.out.fr hf2)
    have HB2 := Lib.hid (HB1.out.fr hf2)
    have HF2 : Hid (FrE B b w w2) := Lib.hid (HF1.out.trans (FrE.of hf2))
    have HGG2 := Lib.hid (HG.out.frE HF2.out)
    have HX2 := Lib.hid hf2; clear hf2
    obtain ⟨⟨c0, c1, c2, c3, c4, c5, c6, c7, c8⟩, f0, f1, f2, f3, f4, f5, f6, f7, f8⟩ := HE2.out.row.all
    rw [HSB.out.2.1] at c5
    have t0 := HB2.out.c0
    have t1 := HB2.out.c1
    have t2 := HB2.out.c2
    have hl2 : st1.buf.length ≤ 100000000 := by rw [HSB.out.1]; exact hlen
    by_cases hT : T = 0
    · have hz : (T == 0) = true := by simpa using hT
      rw [hz]
      have HR1 : Hid (R = if st.bad then st1 else { st1 with buf := st1.buf ++ [10] }) := Lib.hid (by rw [hR, if_pos hT]; simp only; rw [HST1.out])
      clear hR hT hz
      cases hbad : st.bad with
      | true =>
        rw [hbad] at c5
        have HR2 : Hid (R = st1) := Lib.hid (by rw [HR1.out, hbad]; rfl)
        clear HR1 hbad
        go_wp2_with fail
        refine bodyPost_ret (results_none rfl _ _ _) rfl ?_
        exact ⟨rfl, ⟨_, _, _, _, by rw [HR2.out]; exact HE2.out⟩, (FrE.of HF00.out).trans HF2.out⟩
      | false =>
        rw [hbad] at c5
        have HR2 : Hid (R = { st1 with buf := st1.buf ++ [10] }) := Lib.hid (by rw [HR1.out, hbad]; rfl)
        clear HR1 hbad
        obtain ⟨va2, n2, vc2, hv2, hn2, hx2, hy2⟩ := own_shape2 HE2.out.obuf
        rw [hv2] at c0
        have HV2 := Lib.hid hv2; clear hv2
        have HN2 := Lib.hid hn2; clear hn2
        go_wp2_with (first
          | (at_builtin; refine wpApp1 w2 (o := ⟨some 30, _, _, _, _, _⟩) rfl (.tmp 28) (.tmp 29) rfl vb st1.buf _ 10 rfl HV2.out.symm rfl HE2.out.obuf (by omega) ?_; intro v5 w5 ho5 hs5; obtain ⟨va5, n5, vc5, rfl, hn5, _, _⟩ := own_shape2 ho5; have HN5 := Lib.hid hn5; clear hn5; have HR9 := Lib.hid (HE2.out.row.fr hs5.1 (fun hm => HE2.out.row.ne HE2.out.obuf (by simpa using hm))); have d9 := HR9.out.all.1.1; have g9 := HR9.out.free 0))
        refine bodyPost_ret (results_none rfl _ _ _) rfl ?_
        rw [HR2.out]
        exact ⟨rfl, ⟨_, _, _, _, HE2.out.app HGG2.out.big ho5 hs5 ((Fr.refl [b] w5).setCell (.inl (by simp)) _) (HR9.out.set 0 _)⟩, (((FrE.of HF00.out).trans HF2.out).trans (FrE.stp HE2.out.obuf HE2.out.lowb hs5)).trans (FrE.self hbB ((Fr.refl [b] w5).setCell (.inl (by simp)) _))⟩
    · have hz : (T == 0) = false := by simpa using hT
      rw [hz]
      have HR1 : Hid (R = if T - T70 < -9223372036854775808 ∨ T - T70 > 9223372036854775807 then st1.fail 2
        else if st.bad then st1 else { st1 with buf := st1.buf ++ ([32] ++ Lib.itoa (if st1.mul > 0 then (T - T70).tdiv st1.mul else (T - T70)) ++ [10]) }) := Lib.hid (by rw [hR, if_neg hT]; simp only; rw [HST1.out])
      clear hR hT hz
      obtain ⟨lo, hlo⟩ : ∃ x, x = decide (T < T70 + (-9223372036854775808)) := ⟨_, rfl⟩
      obtain ⟨hi, hhi⟩ : ∃ x, x = decide (T > T70 + 9223372036854775807) := ⟨_, rfl⟩
      have HLO := Lib.hid hlo; clear hlo
      have HHI := Lib.hid hhi; clear hhi
      go_upto_region 7 with fail
      go_cut [40] (fun v wx => v = .bool (lo || hi) ∧ Fr [] w2 wx)
      case first =>
        cases lo
        all_goals
          go_region_with (first
            | (go_at_call 153; refine (minTime_any _).mono ?_; rintro e x1 ⟨rfl, hf1⟩; have hg1 := (Fr.refl [] w2).drew.trans hf1; have s0 := (HB2.out.fr hg1).c0; have s1 := (HB2.out.fr hg1).c1; have s2 := (HB2.out.fr hg1).c2)
            | (go_at_call 152; refine (before_any T _ _).mono ?_; rintro e x2 ⟨rfl, hf2⟩; have hg2 := hg1.trans hf2; rw [← HLO.out]; have r0 := (HB2.out.fr hg2).c0; have r1 := (HB2.out.fr hg2).c1; have r2 := (HB2.out.fr hg2).c2)
            | (go_at_call 155; refine (maxTime_any _).mono ?_; rintro e x3 ⟨rfl, hf3⟩; have hg3 := hg2.trans hf3; have q0 := (HB2.out.fr hg3).c0; have q1 := (HB2.out.fr hg3).c1; have q2 := (HB2.out.fr hg3).c2)
            | (go_at_call 154; refine (after_any T _ _).mono ?_; rintro e x4 ⟨rfl, hf4⟩; have hg4 := hg3.trans hf4; rw [← HHI.out]))
        all_goals
          go_wp2_with fail
          go_meet
          exact ⟨rfl, by assumption⟩
      obtain ⟨o, ho⟩ : ∃ x, x = (lo || hi) := ⟨_, rfl⟩
      have HO := Lib.hid ho
      rw [← ho] at hcut
      clear ho
      obtain ⟨rfl, hf7⟩ := hcut
      obtain ⟨w3, hwc3⟩ : ∃ x, x = wc := ⟨_, rfl⟩
      subst hwc3
      clear c0 c1 c2 c3 c4 c5 c6 c7 c8 f0 f1 f2 f3 f4 f5 f6 f7 f8 t0 t1 t2
      have HE3 := Lib.hid (HE2.out.fr hf7)
      have HB3 := Lib.hid (HB2.out.fr hf7)
      have HF3 : Hid (FrE B b w w3) := Lib.hid (HF2.out.trans (FrE.of hf7))
      have HGG3 := Lib.hid (HG.out.frE HF3.out)
      clear hf7
      obtain ⟨⟨c0, c1, c2, c3, c4, c5, c6, c7, c8⟩, f0, f1, f2, f3, f4, f5, f6, f7, f8⟩ := HE3.out.row.all
      rw [HSB.out.2.1] at c5
      rw [HSB.out.2.2] at c8
      have t0 := HB3.out.c0
      have t1 := HB3.out.c1
      have t2 := HB3.out.c2
      cases o with
      | true =>
        have hor : T - T70 < -9223372036854775808 ∨ T - T70 > 9223372036854775807 := by
          have h1 := HO.out; have h2 := HLO.out; have h3 := HHI.out
          rw [h2, h3] at h1
          simp only [T70] at h1 ⊢
          have h4 := Eq.mp (Bool.or_eq_true _ _) h1.symm
          rcases h4 with h | h
          · exact .inl (by have := of_decide_eq_true h; omega)
          · exact .inr (by have := of_decide_eq_true h; omega)
        have HR2 : Hid (R = st1.fail 2) := Lib.hid (by rw [HR1.out, if_pos hor])
        clear hor HR1
        have ge := HGG3.out.err
        go_wp2_with (first
          | (go_at_call 114; refine (setErr_any b st1 vb vk ve _ _ 2 _ HE3.out (.inr (.inr ⟨rfl, rfl⟩)) hss).mono ?_; rintro e w4 ⟨rfl, ⟨ve', hE4⟩, hf4⟩))
        refine bodyPost_ret (results_none rfl _ _ _) rfl ?_
        exact ⟨rfl, ⟨_, _, _, _, by rw [HR2.out]; exact hE4⟩, ((FrE.of HF00.out).trans HF3.out).trans (FrE.self hbB hf4)⟩
      | false =>
        have hor : ¬ (T - T70 < -9223372036854775808 ∨ T - T70 > 9223372036854775807) := by
          have h1 := HO.out; have h2 := HLO.out; have h3 := HHI.out
          rw [h2, h3] at h1
          simp only [T70] at h1 ⊢
          have h4 := (Bool.or_eq_false_iff).1 h1.symm
          have h5 := of_decide_eq_false h4.1
          have h6 := of_decide_eq_false h4.2
          omega
        have HRG : Hid (-9223372036854775808 ≤ T - T70 ∧ T - T70 ≤ 9223372036854775807) := Lib.hid (by omega)
        have HR3 : Hid (R = if st.bad then st1 else { st1 with buf := st1.buf ++ ([32] ++ Lib.itoa (if st.mul > 0 then (T - T70).tdiv st.mul else (T - T70)) ++ [10]) }) := Lib.hid (by rw [HR1.out, if_neg hor, HSB.out.2.1, HSB.out.2.2])
        clear hor HR1
        cases hbad : st.bad with
        | true =>
          rw [hbad] at c5
          have HR2 : Hid (R = st1) := Lib.hid (by rw [HR3.out, hbad]; rfl)
          clear HR3 hbad
          go_wp2_with fail
          refine bodyPost_ret (results_none rfl _ _ _) rfl ?_
          exact ⟨rfl, ⟨_, _, _, _, by rw [HR2.out]; exact HE3.out⟩, (FrE.of HF00.out).trans HF3.out⟩
        | false =>
          rw [hbad] at c5
          obtain ⟨q, hq⟩ : ∃ x, x = if st.mul > 0 then (T - T70).tdiv st.mul else (T - T70) := ⟨_, rfl⟩
          have HR2 : Hid (R = { st1 with buf := st1.buf ++ ([32] ++ Lib.itoa q ++ [10]) }) := Lib.hid (by rw [HR3.out, hbad, hq]; rfl)
          have HQ := Lib.hid hq
          clear HR3 hbad hq
          obtain ⟨va3, n3, vc3, hv3, hn3, hx3, hy3⟩ := own_shape2 HE3.out.obuf
          rw [hv3] at c0
          have HV3 := Lib.hid hv3; clear hv3
          have HN3 := Lib.hid hn3; clear hn3
          go_upto_region 11 with (first
            | (at_builtin; refine wpApp1 w3 (o := ⟨some 54, _, _, _, _, _⟩) rfl (.tmp 52) (.tmp 53) rfl vb st1.buf _ 32 rfl HV3.out.symm rfl HE3.out.obuf (by omega) ?_; intro v5 w5 ho5 hs5; obtain ⟨va5, n5, vc5, rfl, hn5, _, _⟩ := own_shape2 ho5; have HN5 := Lib.hid hn5; clear hn5; have HR9 := Lib.hid (HE3.out.row.fr hs5.1 (fun hm => HE3.out.row.ne HE3.out.obuf (by simpa using hm))); have d9 := HR9.out.all.1.1; have g9 := HR9.out.free 0))
          obtain ⟨w4, hw4⟩ : ∃ x, x = w5.setCell ⟨b, 0, none⟩ (.slice va5 n5 vc5) := ⟨_, rfl⟩
          rw [← hw4]
          obtain ⟨st4, hst4⟩ : ∃ x : St, x = { st1 with buf := st1.buf ++ [32] } := ⟨_, rfl⟩
          obtain ⟨vb4, hvb4⟩ : ∃ x, x = Value.slice va5 n5 vc5 := ⟨_, rfl⟩
          have hE4 : EncC B ea w4 b st4 vb4 vk ve pi := by
            rw [hw4, hst4, hvb4]; exact HE3.out.app HGG3.out.big ho5 hs5 ((Fr.refl [b] w5).setCell (.inl (by simp)) _) (HR9.out.set 0 _)
          have hF4 : FrE B b w w4 := by
            rw [hw4]; exact (HF3.out.trans (FrE.stp HE3.out.obuf HE3.out.lowb hs5)).trans (FrE.self hbB ((Fr.refl [b] w5).setCell (.inl (by simp)) _))
          have HGG4 := Lib.hid (HG.out.frE hF4)
          have hl4 : st4.buf.length ≤ 100000001 := by rw [hst4]; simp only [List.length_append, List.length_singleton]; omega
          have hm4 : st4.mul = st.mul := by rw [hst4]; exact HSB.out.2.2
          have HB4 : Hid (TBox w4 w0.heap.size T) := Lib.hid (by
            rw [hw4, TBox, heap_setCell_other _ _ _ _ (fun e => HB0.out (by simpa using e))]
            exact hs5.1.blk HB3.out (fun hm => by
              have := HVB.out; rw [Option.mem_toList] at hm; exact this hm))
          have HE4 := Lib.hid hE4
          have HF4 := Lib.hid hF4
          have HST4 := Lib.hid hst4
          clear c0 c1 c2 c3 c4 c5 c6 c7 c8 f0 f1 f2 f3 f4 f5 f6 f7 f8 t0 t1 t2 d9 g9 HR9 ho5 hs5 hw4 hE4 hF4 hst4 hvb4 hx3 hy3 HN5
          obtain ⟨⟨c0, c1, c2, c3, c4, c5, c6, c7, c8⟩, f0, f1, f2, f3, f4, f5, f6, f7, f8⟩ := HE4.out.row.all
          have t0 := HB4.out.c0
          have t1 := HB4.out.c1
          have t2 := HB4.out.c2
          go_upto_region 12 with (go_at_call 156; refine (unixNano_any T _ HRG.out.1 HRG.out.2).mono ?_; rintro e w6 ⟨rfl, hf6⟩)
          clear c0 c1 c2 c3 c4 c5 c6 c7 c8 f0 f1 f2 f3 f4 f5 f6 f7 f8 t0 t1 t2
          have HE6 := Lib.hid (HE4.out.fr hf6)
          have HF6 : Hid (FrE B b w w6) := Lib.hid (HF4.out.trans (FrE.of hf6))
          have HGG6 := Lib.hid (HG.out.frE HF6.out)
          clear hf6
          obtain ⟨⟨c0, c1, c2, c3, c4, c5, c6, c7, c8⟩, f0, f1, f2, f3, f4, f5, f6, f7, f8⟩ := HE6.out.row.all
          rw [hm4] at c8
          obtain ⟨mu, hmu⟩ : ∃ x, x = st.mul := ⟨_, rfl⟩
          rw [← hmu] at c8
          obtain ⟨N, hN⟩ : ∃ x, x = T - T70 := ⟨_, rfl⟩
          rw [← hN]
          have HRN : Hid (-9223372036854775808 ≤ N ∧ N ≤ 9223372036854775807) := Lib.hid (by rw [hN]; exact HRG.out)
          have HQN : Hid (q = if mu > 0 then N.tdiv mu else N) := Lib.hid (by rw [hN, hmu]; exact HQ.out)
          clear hN hmu HQ HRG hm4
          go_upto_if 64 with fail
          go_cut [4] (fun v wx => v = .int .i64 q ∧ wx = w6)
          case first =>
            by_cases hmu0 : mu > 0
            · have hqq : q = N.tdiv mu := by rw [HQN.out, if_pos hmu0]
              have kd : decide (mu > 0) = true := decide_eq_true hmu0
              have hne : ¬ mu = 0 := by omega
              have hbd : wrap64 (N.tdiv mu) = N.tdiv mu := tdiv_wrap N mu HRN.out.1 HRN.out.2 hmu0
              go_wp2_with fail
              go_meet
              exact ⟨by rw [hqq]; first | rfl | (rw [hbd]) | (simp only [hbd]), rfl⟩
            · have hqq : q = N := by rw [HQN.out, if_neg hmu0]
              have kd : decide (mu > 0) = false := decide_eq_false hmu0
              have kd2 : ¬ 0 < mu := hmu0
              go_wp2_with fail
              go_meet
              exact ⟨by rw [hqq], rfl⟩
          obtain ⟨rfl, hwc6⟩ := hcut
          have hwc6' := hwc6.symm
          subst hwc6'
          have HQR : Hid (-9223372036854775808 ≤ q ∧ q ≤ 9223372036854775807) := Lib.hid (by
            rw [HQN.out]; split
            · rename_i h; exact tdiv_range N mu HRN.out.1 HRN.out.2 h
            · exact HRN.out)
          clear HQN HRN
          obtain ⟨va6, n6, vc6, hv6, hn6, hx6, hy6⟩ := own_shape2 HE6.out.obuf
          rw [hv6] at c0
          have HV6 := Lib.hid hv6; clear hv6
          have HN6 := Lib.hid hn6; clear hn6
          go_upto_region 16 with (go_at_call 67; rw [← HV6.out]; refine (appendInt_any q HQR.out.1 HQR.out.2 vb4 st4.buf w6 HGG6.out.toGv HE6.out.obuf (by omega) HE6.out.lowb).mono ?_; rintro e w7 ⟨v7, rfl, ho7, hs7⟩; obtain ⟨va7, n7, vc7, rfl, hn7, _, _⟩ := own_shape2 ho7; have HN7 := Lib.hid hn7; clear hn7; have HR9 := Lib.hid (HE6.out.row.fr hs7.1 (fun hm => HE6.out.row.ne HE6.out.obuf (by simpa using hm))); have d9 := HR9.out.all.1.1; have g9 := HR9.out.free 0)
          obtain ⟨w8, hw8⟩ : ∃ x, x = w7.setCell ⟨b, 0, none⟩ (.slice va7 n7 vc7) := ⟨_, rfl⟩
          rw [← hw8]
          obtain ⟨st8, hst8⟩ : ∃ x : St, x = { st4 with buf := st4.buf ++ Lib.itoa q } := ⟨_, rfl⟩
          obtain ⟨vb8, hvb8⟩ : ∃ x, x = Value.slice va7 n7 vc7 := ⟨_, rfl⟩
          have hE8 : EncC B ea w8 b st8 vb8 vk ve pi := by
            rw [hw8, hst8, hvb8]; exact HE6.out.app HGG6.out.big ho7 hs7 ((Fr.refl [b] w7).setCell (.inl (by simp)) _) (HR9.out.set 0 _)
          have hF8 : FrE B b w w8 := by
            rw [hw8]; exact (HF6.out.trans (FrE.stp HE6.out.obuf HE6.out.lowb hs7)).trans (FrE.self hbB ((Fr.refl [b] w7).setCell (.inl (by simp)) _))
          have HGG8 := Lib.hid (HG.out.frE hF8)
          have hl8 : st8.buf.length ≤ 100000101 := by
            have := Lib.itoa_length_le q HQR.out.1 HQR.out.2
            rw [hst8]; simp only [List.length_append]; omega
          have HE8 := Lib.hid hE8
          have HF8 := Lib.hid hF8
          have HST8 := Lib.hid hst8
          clear c0 c1 c2 c3 c4 c5 c6 c7 c8 f0 f1 f2 f3 f4 f5 f6 f7 f8 d9 g9 HR9 ho7 hs7 hw8 hE8 hF8 hst8 hvb8 hx6 hy6 HN7
          obtain ⟨⟨c0, c1, c2, c3, c4, c5, c6, c7, c8⟩, f0, f1, f2, f3, f4, f5, f6, f7, f8⟩ := HE8.out.row.all
          obtain ⟨va8, n8, vc8, hv8, hn8, hx8, hy8⟩ := own_shape2 HE8.out.obuf
          rw [hv8] at c0
          have HV8 := Lib.hid hv8; clear hv8
          have HN8 := Lib.hid hn8; clear hn8
          go_wp2_with (first
            | (at_builtin; refine wpApp1 w8 (o := ⟨some 83, _, _, _, _, _⟩) rfl (.tmp 81) (.tmp 82) rfl vb8 st8.buf _ 10 rfl HV8.out.symm rfl HE8.out.obuf (by omega) ?_; intro v9 w9 ho9 hs9; obtain ⟨va9, n9, vc9, rfl, hn9, _, _⟩ := own_shape2 ho9; have HN9 := Lib.hid hn9; clear hn9; have HR9 := Lib.hid (HE8.out.row.fr hs9.1 (fun hm => HE8.out.row.ne HE8.out.obuf (by simpa using hm))); have d9 := HR9.out.all.1.1; have g9 := HR9.out.free 0))
          go_end0
          have hfin : R = { st8 with buf := st8.buf ++ [10] } := by
            rw [HR2.out, HST8.out, HST4.out]; simp
          rw [hfin]
          exact ⟨rfl, ⟨_, _, _, _, HE8.out.app HGG8.out.big ho9 hs9 ((Fr.refl [b] w9).setCell (.inl (by simp)) _) (HR9.out.set 0 _)⟩, (((FrE.of HF00.out).trans HF8.out).trans (FrE.stp HE8.out.obuf HE8.out.lowb hs9)).trans (FrE.self hbB ((Fr.refl [b] w9).setCell (.inl (by simp)) _))⟩
end Go.Proofs.YtaaogjhaokaggaaGreatDoor
