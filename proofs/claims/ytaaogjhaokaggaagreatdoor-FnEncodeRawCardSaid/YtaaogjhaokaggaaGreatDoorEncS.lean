import Derived.Test.YtaaogjhaokaggaaGreatDoorEncAB
import Derived.Test.YtaaogjhaokaggaaGreatDoorKeyB
namespace Go.Proofs.YtaaogjhaokaggaaGreatDoor
open Go.RowKit

theorem own_shape {w : World} {v : Value} {l : List UInt8} (h : Own w 5 v l) : ∃ a c, v = .slice a l.length c ∧ l.length ≤ c ∧ c ≤ 9223372036854775807 := by
  rcases h with ⟨h1, h2⟩ | ⟨g, cap, h1, cur, fr, _, _, _, h4, h5, _⟩
  · exact ⟨none, 0, by rw [h1, h2]; rfl, by rw [h2]; exact Nat.le_refl _, by omega⟩
  · exact ⟨_, _, h1, h4, by unfold maxLen at h5; omega⟩

theorem own_shape2 {w : World} {v : Value} {l : List UInt8} (h : Own w 5 v l) : ∃ a n c, v = .slice a n c ∧ n = l.length ∧ n ≤ c ∧ c ≤ 9223372036854775807 := by
  obtain ⟨a, c, h1, h2, h3⟩ := own_shape h
  exact ⟨a, _, c, h1, rfl, h2, h3⟩

/-- The same encoder with other numbers and flags. -/
theorem EncC.re {B : Nat} {ea : Addr} {w w' : World} {b : Nat} {st : St} {vb vk ve : Value} {pi : Int} (h : EncC B ea w b st vb vk ve pi) (f : Fr [b] w w') (st' : St) (pi' : Int)
    (hr : ER w' b #[vb, vk, .int .i64 st'.start, .int .u8 st'.sec, .bool st'.lax, .bool st'.bad, ve, .int .i64 pi', .int .i64 st'.mul]) (e1 : st'.buf = st.buf) (e2 : st'.key = st.key) (e3 : st'.err = st.err) : EncC B ea w' b st' vb vk ve pi' :=
  ⟨hr, by rw [e1]; exact h.obuf.fr f (fun g hg hm => by simp at hm; subst hm; exact h.row.ne h.obuf hg), by rw [e2]; exact h.okey.fr f (fun g hg hm => by simp at hm; subst hm; exact h.row.ne h.okey hg), h.apart, h.lowb, h.lowk, h.low, by rw [e3]; exact h.er.frB f h.row⟩
/-- .. with the key cut off. -/
theorem EncC.reKey {B : Nat} {ea : Addr} {w w' : World} {b : Nat} {st : St} {vb vk ve : Value} {pi : Int} (h : EncC B ea w b st vb vk ve pi) (f : Fr [b] w w') (st' : St) (pi' : Int)
    (hr : ER w' b #[vb, cutTo vk 0, .int .i64 st'.start, .int .u8 st'.sec, .bool st'.lax, .bool st'.bad, ve, .int .i64 pi', .int .i64 st'.mul]) (e1 : st'.buf = st.buf) (e2 : st'.key = []) (e3 : st'.err = st.err) : EncC B ea w' b st' vb (cutTo vk 0) ve pi' := by
  obtain ⟨k1, k2⟩ := h.okey.cut 0 (Nat.zero_le _)
  exact ⟨hr, by rw [e1]; exact h.obuf.fr f (fun g hg hm => by simp at hm; subst hm; exact h.row.ne h.obuf hg), by rw [e2]; exact k1.fr f (fun g hg hm => by simp at hm; subst hm; exact h.row.ne h.okey (k2 ▸ hg)), fun g hg => by rw [k2]; exact h.apart g hg, h.lowb, fun g hg => h.lowk g (k2 ▸ hg), h.low, by rw [e3]; exact h.er.frB f h.row⟩
/-- Behind a step on the buffer, the new value laid into its cell. -/
theorem EncC.app {B : Nat} {ea : Addr} {w w1 w' : World} {b : Nat} {st : St} {vb vk ve vb' : Value} {pi : Int} {r : List UInt8} (h : EncC B ea w b st vb vk ve pi) (hBw : B ≤ w.heap.size) (ho : Own w1 5 vb' r) (hs : Stp w w1 vb vb') (f : Fr [b] w1 w') (hr : ER w' b #[vb', vk, .int .i64 st.start, .int .u8 st.sec, .bool st.lax, .bool st.bad, ve, .int .i64 pi, .int .i64 st.mul]) :
    EncC B ea w' b { st with buf := r } vb' vk ve pi := by
  have hb1 : ER w1 b #[vb, vk, .int .i64 st.start, .int .u8 st.sec, .bool st.lax, .bool st.bad, ve, .int .i64 pi, .int .i64 st.mul] := h.row.fr hs.1 (fun hm => h.row.ne h.obuf (by simpa using hm))
  have hk1 : Own w1 5 vk st.key := hs.own h.okey (fun g hg hv => h.apart g hv hg)
  refine ⟨hr, ho.fr f (fun g hg hm => by simp at hm; subst hm; exact hb1.ne ho hg), hk1.fr f (fun g hg hm => by simp at hm; subst hm; exact hb1.ne hk1 hg), fun g hg hk => ?_, fun g hg => ?_, h.lowk, h.low, (h.er.own hs.1 h.obuf).frB f hb1⟩
  · rcases hs.2 with e | ⟨g', e, e'⟩
    · exact h.apart g (e ▸ hg) hk
    · rw [e] at hg; cases hg; have := h.okey.lt g hk; omega
  · rcases hs.2 with e | ⟨g', e, e'⟩
    · exact h.lowb g (e ▸ hg)
    · rw [e] at hg; cases hg; omega

/-- StartLine. -/
def St.line (st : St) (m : List UInt8) : St :=
  let st2 := if st.sec = 1 then { st with sec := 1 }.fail 1 else { st with sec := 1 }
  let st3 := { st2 with key := [], start := st2.buf.length, bad := false }
  if st.lax = false ∧ keyOk m = false then st3.fail 1
  else { st3 with buf := st3.buf ++ ((if st.sec ≠ 0 ∧ st.sec ≠ 5 then [10] else []) ++ esc (tOf sM) m) }

/-- Between the parts of a walk: the encoder stands so. -/
def Mid (B : Nat) (ea : Addr) (b : Nat) (st : St) (w wx : World) : Prop := Enc B ea wx b st ∧ FrE B b w wx

def St.line2 (st : St) : St := if st.sec = 1 then { st with sec := 1 }.fail 1 else { st with sec := 1 }

set_option maxHeartbeats 4000000 in
set_option maxRecDepth 100000 in
theorem startLine_any (hV : ValidSaid) {B : Nat} {ea : Addr} (b : Nat) (st : St) (s : ByteArray) (w : World) (hG : Gl B ea w) (h : Enc B ea w b st) (hs : s.size ≤ 1000000) (hst : st.sec = 1 → st.start ≤ st.buf.length) (hlen : st.buf.length ≤ 100000000) :
    Calls Tryz.prog 79 #[.pointer (some ⟨b, 0, none⟩), .string s] w fun e w' => e = .returned (.tuple #[]) ∧ Mid B ea b (st.line s.data.toList) w w' := by
  obtain ⟨vb, vk, ve, pi, hE⟩ := h
  obtain ⟨⟨c0, c1, c2, c3, c4, c5, c6, c7, c8⟩, f0, f1, f2, f3, f4, f5, f6, f7, f8⟩ := hE.row.all
  have hbB := hE.low
  have hA : ∀ p : Int, EncC B ea ((w.setCell ⟨b, 7, none⟩ (.int .i64 p)).setCell ⟨b, 3, none⟩ (.int .u8 1)) b { st with sec := 1 } vb vk ve p := fun p =>
    hE.re (((Fr.refl [b] w).setCell (.inl (by simp)) _).setCell (.inl (by simp)) _) _ p ((hE.row.set 7 _).set 3 _) rfl rfl rfl
  have hF : ∀ p : Int, FrE B b w ((w.setCell ⟨b, 7, none⟩ (.int .i64 p)).setCell ⟨b, 3, none⟩ (.int .u8 1)) := fun p => FrE.self hbB (((Fr.refl [b] w).setCell (.inl (by simp)) _).setCell (.inl (by simp)) _)
  have HA := Lib.hid hA; clear hA
  have HF := Lib.hid hF; clear hF
  have HG := Lib.hid hG; clear hG
  clear hE
  obtain ⟨st2, hst2⟩ : ∃ st2 : St, st2 = st.line2 := ⟨_, rfl⟩
  have hl2 : st2.lax = st.lax := by rw [hst2]; unfold St.line2 St.fail; split <;> rfl
  have hlen2 : st2.buf.length ≤ 100000000 := by
    rw [hst2]; unfold St.line2 St.fail; split
    · simp only [List.length_take]; omega
    · exact hlen
  have HS2 := Lib.hid hst2; clear hst2
  have hres : st.line s.data.toList = (if st.lax = false ∧ keyOk s.data.toList = false then ({ st2 with key := [], start := st2.buf.length, bad := false } : St).fail 1
      else { st2 with key := [], start := st2.buf.length, bad := false, buf := st2.buf ++ ((if st.sec ≠ 0 ∧ st.sec ≠ 5 then [10] else []) ++ esc (tOf sM) s.data.toList) }) := by
    rw [HS2.out]; rfl
  obtain ⟨R, hR⟩ : ∃ R, R = st.line s.data.toList := ⟨_, rfl⟩
  rw [← hR] at hres ⊢
  have HR := Lib.hid hres; clear hres hR
  obtain ⟨sec, hsec⟩ : ∃ sec, sec = st.sec := ⟨_, rfl⟩
  rw [← hsec] at c3
  have HSEC := Lib.hid hsec; clear hsec
  have hbig := HG.out.big
  go_enter Tryz.func79, Tryz.ntmps79
  go_upto_if 20 with fail
  go_cut [] (fun wx => Mid B ea b st2 w wx)
  case first =>
    by_cases h1 : st.sec = 1
    · have hi : sec = 1 := by rw [HSEC.out]; exact h1
      subst hi
      have HX : Hid (st2 = ({ st with sec := 1 } : St).fail 1) := Lib.hid (by rw [HS2.out, St.line2, if_pos h1])
      have hst1 := hst h1
      clear hst h1
      go_wp2_with (first
        | (go_at_call 115; refine (errNew_any (B := B) (ea := ea) _ _ (by simpa using hbig)).mono ?_; rintro e w1 ⟨x, rfl, hx, hf1⟩)
        | (go_at_call 114; refine (setErr_any b { st with sec := 1 } vb vk ve _ x 1 _ ((HA.out _).fr hf1) hx hst1).mono ?_; rintro e w2 ⟨rfl, ⟨ve', hE2⟩, hf2⟩))
      go_meet
      exact ⟨⟨_, _, _, _, by rw [HX.out]; exact hE2⟩, ((HF.out _).trans (FrE.of hf1)).trans (FrE.self hbB hf2)⟩
    · have HX : Hid (st2 = ({ st with sec := 1 } : St)) := Lib.hid (by rw [HS2.out, St.line2, if_neg h1])
      have hb1 : ((sec : Int) == 1) = false := by rw [beq_eq_false_iff_ne, HSEC.out]; omega
      clear hst h1
      go_wp2_with fail
      go_meet
      exact ⟨⟨_, _, _, _, by rw [HX.out]; exact HA.out _⟩, HF.out _⟩
  case rest =>
    clear c0 c1 c2 c3 c4 c5 c6 c7 c8 f0 f1 f2 f3 f4 f5 f6 f7 f8 HA HF hst hlen
    obtain ⟨⟨vb2, vk2, ve2, pi2, hE2⟩, hF2⟩ := hcut
    obtain ⟨vba, vbc, hvb, hvb1, hvb2⟩ := own_shape hE2.obuf
    obtain ⟨vka, vkc, hvk, hvk1, hvk2⟩ := own_shape hE2.okey
    obtain ⟨⟨c0, c1, c2, c3, c4, c5, c6, c7, c8⟩, f0, f1, f2, f3, f4, f5, f6, f7, f8⟩ := hE2.row.all
    rw [hvb] at c0
    rw [hvk] at c1
    rw [hl2] at c4
    have HE2 := Lib.hid hE2; clear hE2
    have HF2 := Lib.hid hF2; clear hF2
    have HVB := Lib.hid hvb; clear hvb
    have HVK := Lib.hid hvk; clear hvk
    have hk0 : (0:Int) ≤ (vkc : Int) := by omega
    have hB0 : (0:Int) ≤ (st2.buf.length : Int) := by omega
    clear hl2
    obtain ⟨lax, hlax⟩ : ∃ lax, lax = st.lax := ⟨_, rfl⟩
    rw [← hlax] at c4 HR
    have HL := Lib.hid hlax; clear hlax
    obtain ⟨st3, hst3⟩ : ∃ st3 : St, st3 = { st2 with key := [], start := st2.buf.length, bad := false } := ⟨_, rfl⟩
    have hE3 : EncC B ea (((wc.setCell ⟨b, 1, none⟩ (.slice vka 0 vkc)).setCell ⟨b, 2, none⟩ (.int .i64 (st2.buf.length : Int))).setCell ⟨b, 5, none⟩ (.bool false)) b st3 vb2 (cutTo vk2 0) ve2 pi2 := by
      rw [hst3]
      refine HE2.out.reKey ((((Fr.refl [b] wc).setCell (.inl (by simp)) _).setCell (.inl (by simp)) _).setCell (.inl (by simp)) _) _ pi2 ?_ rfl rfl rfl
      rw [HVK.out]
      exact (((HE2.out.row.set 1 _).set 2 _).set 5 _)
    have hF3 : FrE B b w (((wc.setCell ⟨b, 1, none⟩ (.slice vka 0 vkc)).setCell ⟨b, 2, none⟩ (.int .i64 (st2.buf.length : Int))).setCell ⟨b, 5, none⟩ (.bool false)) := HF2.out.trans (FrE.self hbB ((((Fr.refl [b] wc).setCell (.inl (by simp)) _).setCell (.inl (by simp)) _).setCell (.inl (by simp)) _))
    have hG3 := Lib.hid (HG.out.frE hF3)
    have HE3 := Lib.hid hE3; clear hE3
    have HF3 := Lib.hid hF3; clear hF3
    have hres3 : R = (if lax = false ∧ keyOk s.data.toList = false then st3.fail 1 else { st3 with buf := st2.buf ++ ((if st.sec ≠ 0 ∧ st.sec ≠ 5 then [10] else []) ++ esc (tOf sM) s.data.toList) }) := by rw [hst3]; exact HR.out
    have HR3 := Lib.hid hres3; clear hres3 HR
    have hb3 : st3.buf = st2.buf := by rw [hst3]
    have hst3s : st3.start ≤ st3.buf.length := by rw [hst3]; exact Nat.le_refl _
    have HB3 := Lib.hid hb3; clear hb3
    have HST3 := Lib.hid hst3; clear hst3
    go_upto_if 47 with fail
    go_cut [] (fun wx => ¬ (lax = false ∧ keyOk s.data.toList = false) ∧ EncC B ea wx b st3 vb2 (cutTo vk2 0) ve2 pi2 ∧ FrE B b w wx)
    case first =>
      cases lax with
      | true =>
        go_wp2_with fail
        go_meet
        exact ⟨by simp, HE3.out, HF3.out⟩
      | false =>
        cases hk : keyOk s.data.toList with
        | true =>
          have HK := Lib.hid hk; clear hk
          go_wp2_with (go_at_call 91; refine (validKey_any hV (B := B) (ea := ea) s _ hs hG3.out.toGv).mono ?_; rintro e w1 ⟨rfl, hf1⟩; rw [HK.out])
          go_meet
          exact ⟨by simp [HK.out], HE3.out.fr hf1, HF3.out.trans (FrE.of hf1)⟩
        | false =>
          have HR4 : Hid (R = st3.fail 1) := Lib.hid (by rw [HR3.out, hk, if_pos ⟨rfl, rfl⟩])
          have HK := Lib.hid hk; clear hk
          clear HR3
          go_wp2_with (first
            | (go_at_call 91; refine (validKey_any hV (B := B) (ea := ea) s _ hs hG3.out.toGv).mono ?_; rintro e w1 ⟨rfl, hf1⟩; rw [HK.out])
            | (go_at_call 115; refine (errNew_any (B := B) (ea := ea) _ _ (Nat.le_trans hG3.out.big hf1.size)).mono ?_; rintro e w2 ⟨x, rfl, hx, hf2⟩)
            | (go_at_call 114; refine (setErr_any b st3 vb2 (cutTo vk2 0) ve2 _ x 1 _ ((HE3.out.fr hf1).fr hf2) hx hst3s).mono ?_; rintro e w3 ⟨rfl, ⟨ve', hE3⟩, hf3⟩))
          refine bodyPost_ret (results_none rfl _ _ _) rfl ?_
          exact ⟨rfl, ⟨_, _, _, _, by rw [HR4.out]; exact hE3⟩, ((HF3.out.trans (FrE.of hf1)).trans (FrE.of hf2)).trans (FrE.self hbB hf3)⟩
    case rest =>
      obtain ⟨hno, hE4, hF4⟩ := hcut
      have HR4 : Hid (R = { st3 with buf := st3.buf ++ ((if st.sec ≠ 0 ∧ st.sec ≠ 5 then [10] else []) ++ esc (tOf sM) s.data.toList) }) := Lib.hid (by rw [HR3.out, HB3.out, if_neg hno])
      clear HR3 hno c0 c1 c2 c3 c4 c5 c6 c7 c8 f0 f1 f2 f3 f4 f5 f6 f7 f8 hvb1 hvb2 hvk1 hvk2 hk0 hB0 HE2 HF2 HVK HVB HE3 HF3
      obtain ⟨⟨c0, c1, c2, c3, c4, c5, c6, c7, c8⟩, f0, f1, f2, f3, f4, f5, f6, f7, f8⟩ := hE4.row.all
      have hl3 : st3.buf.length ≤ 100000000 := by rw [HB3.out]; exact hlen2
      have hG4 := Lib.hid (HG.out.frE hF4)
      have HE4 := Lib.hid hE4; clear hE4
      have HF4 := Lib.hid hF4; clear hF4
      rcases (show sec = 0 ∨ sec = 5 ∨ (sec ≠ 0 ∧ sec ≠ 5) by omega) with hs0 | hs0 | ⟨hs0, hs5⟩
      · have HR5 : Hid (R = { st3 with buf := st3.buf ++ esc (tOf sM) s.data.toList }) := Lib.hid (by rw [HR4.out, if_neg (by rw [← HSEC.out]; simp [hs0])]; rfl)
        clear HR4
        subst hs0
        go_upto_region 13 with fail
        go_region_with (first
          | (go_at_call 116; refine (escM_any _).mono ?_; rintro e w1 ⟨rfl, hx1, hf1⟩; have hf2 := (Fr.refl [] wc).drew.trans hf1; have HE5 := Lib.hid (HE4.out.fr hf2); have d0 := HE5.out.row.all.1.1; have g0 := HE5.out.row.free 0)
          | (go_at_call 73; refine (appendEscaped_any _ _ _ st3.buf _ _ hs (by omega) hx1 HE5.out.obuf (fun g hg e => absurd (HE4.out.obuf.lt g hg) (by rw [← e]; exact Nat.lt_irrefl _))).mono ?_; rintro e w2 ⟨vb', rfl, ho2, hs2⟩; obtain ⟨va', n', vc', rfl, hn', _, _⟩ := own_shape2 ho2; have HN' := Lib.hid hn'; clear hn'; have HR2 := Lib.hid (HE5.out.row.fr hs2.1 (fun hm => HE5.out.row.ne HE5.out.obuf (by simpa using hm))); have d1 := HR2.out.all.1.1; have g1 := HR2.out.free 0))
        all_goals
          go_end0
          have hE5 := HE5.out
          rw [HR5.out]
          exact ⟨rfl, ⟨_, _, _, _, hE5.app (Nat.le_trans hG4.out.big hf2.size) ho2 hs2 ((Fr.refl [b] w2).setCell (.inl (by simp)) _) (HR2.out.set 0 _)⟩, ((HF4.out.trans (FrE.of hf2)).trans (FrE.stp hE5.obuf hE5.lowb hs2)).trans (FrE.self hbB ((Fr.refl [b] w2).setCell (.inl (by simp)) _))⟩
      · have HR5 : Hid (R = { st3 with buf := st3.buf ++ esc (tOf sM) s.data.toList }) := Lib.hid (by rw [HR4.out, if_neg (by rw [← HSEC.out]; simp [hs0])]; rfl)
        clear HR4
        subst hs0
        go_upto_region 13 with fail
        go_region_with (first
          | (go_at_call 116; refine (escM_any _).mono ?_; rintro e w1 ⟨rfl, hx1, hf1⟩; have hf2 := (Fr.refl [] wc).drew.trans hf1; have HE5 := Lib.hid (HE4.out.fr hf2); have d0 := HE5.out.row.all.1.1; have g0 := HE5.out.row.free 0)
          | (go_at_call 73; refine (appendEscaped_any _ _ _ st3.buf _ _ hs (by omega) hx1 HE5.out.obuf (fun g hg e => absurd (HE4.out.obuf.lt g hg) (by rw [← e]; exact Nat.lt_irrefl _))).mono ?_; rintro e w2 ⟨vb', rfl, ho2, hs2⟩; obtain ⟨va', n', vc', rfl, hn', _, _⟩ := own_shape2 ho2; have HN' := Lib.hid hn'; clear hn'; have HR2 := Lib.hid (HE5.out.row.fr hs2.1 (fun hm => HE5.out.row.ne HE5.out.obuf (by simpa using hm))); have d1 := HR2.out.all.1.1; have g1 := HR2.out.free 0))
        all_goals
          go_end0
          have hE5 := HE5.out
          rw [HR5.out]
          exact ⟨rfl, ⟨_, _, _, _, hE5.app (Nat.le_trans hG4.out.big hf2.size) ho2 hs2 ((Fr.refl [b] w2).setCell (.inl (by simp)) _) (HR2.out.set 0 _)⟩, ((HF4.out.trans (FrE.of hf2)).trans (FrE.stp hE5.obuf hE5.lowb hs2)).trans (FrE.self hbB ((Fr.refl [b] w2).setCell (.inl (by simp)) _))⟩
      · have HR5 : Hid (R = { { st3 with buf := st3.buf ++ [10] } with buf := (st3.buf ++ [10]) ++ esc (tOf sM) s.data.toList }) := Lib.hid (by rw [HR4.out, if_pos (by rw [← HSEC.out]; exact ⟨hs0, hs5⟩)]; simp)
        clear HR4
        have hb0 : ((sec : Int) != 0) = true := by simp; omega
        have hb5 : ((sec : Int) != 5) = true := by simp; omega
        obtain ⟨vba, vbc, hvb, hvb1, hvb2⟩ := own_shape HE4.out.obuf
        rw [hvb] at c0
        have HVB := Lib.hid hvb; clear hvb
        clear hs0 hs5
        go_upto_region 13 with (first
          | (at_builtin; refine wpApp1 wc (o := ⟨some 66, _, _, _, _, _⟩) rfl (.tmp 64) (.tmp 65) rfl vb2 st3.buf _ 10 rfl HVB.out.symm rfl HE4.out.obuf (by omega) ?_; intro v5 w5 ho5 hs5; obtain ⟨va5, n5, vc5, rfl, hn5, _, _⟩ := own_shape2 ho5; have HN5 := Lib.hid hn5; clear hn5; have HR9 := Lib.hid (HE4.out.row.fr hs5.1 (fun hm => HE4.out.row.ne HE4.out.obuf (by simpa using hm))); have d9 := HR9.out.all.1.1; have g9 := HR9.out.free 0))
        obtain ⟨w6, hw6⟩ : ∃ w6, w6 = w5.setCell ⟨b, 0, none⟩ (.slice va5 n5 vc5) := ⟨_, rfl⟩
        rw [← hw6]
        have hE6 : EncC B ea w6 b { st3 with buf := st3.buf ++ [10] } (.slice va5 n5 vc5) (cutTo vk2 0) ve2 pi2 := by
          rw [hw6]; exact HE4.out.app hG4.out.big ho5 hs5 ((Fr.refl [b] w5).setCell (.inl (by simp)) _) (HR9.out.set 0 _)
        have hF6 : FrE B b w w6 := by
          rw [hw6]; exact (HF4.out.trans (FrE.stp HE4.out.obuf HE4.out.lowb hs5)).trans (FrE.self hbB ((Fr.refl [b] w5).setCell (.inl (by simp)) _))
        have hG6 := Lib.hid (hG4.out.frE ((FrE.stp HE4.out.obuf HE4.out.lowb hs5).trans (FrE.self (w' := w6) hbB (by rw [hw6]; exact (Fr.refl [b] w5).setCell (.inl (by simp)) _))))
        clear c0 c1 c2 c3 c4 c5 c6 c7 c8 f0 f1 f2 f3 f4 f5 f6 f7 f8 d9 g9 hvb1 hvb2 HR9 ho5 hs5 HVB HE4 HF4 hG4 hw6 hb0 hb5
        obtain ⟨⟨c0, c1, c2, c3, c4, c5, c6, c7, c8⟩, f0, f1, f2, f3, f4, f5, f6, f7, f8⟩ := hE6.row.all
        have HE4 := Lib.hid hE6; clear hE6
        have HF4 := Lib.hid hF6; clear hF6
        have hG4 := hG6
        go_region_with (first
          | (go_at_call 116; refine (escM_any _).mono ?_; rintro e w1 ⟨rfl, hx1, hf1⟩; have hf2 := (Fr.refl [] w6).drew.trans hf1; have HE5 := Lib.hid (HE4.out.fr hf2); have d0 := HE5.out.row.all.1.1; have g0 := HE5.out.row.free 0)
          | (go_at_call 73; refine (appendEscaped_any _ _ _ (st3.buf ++ [10]) _ _ hs (by simp; omega) hx1 HE5.out.obuf (fun g hg e => absurd (HE4.out.obuf.lt g hg) (by rw [← e]; exact Nat.lt_irrefl _))).mono ?_; rintro e w2 ⟨vb', rfl, ho2, hs2⟩; obtain ⟨va', n', vc', rfl, hn', _, _⟩ := own_shape2 ho2; have HN' := Lib.hid hn'; clear hn'; have HR2 := Lib.hid (HE5.out.row.fr hs2.1 (fun hm => HE5.out.row.ne HE5.out.obuf (by simpa using hm))); have d1 := HR2.out.all.1.1; have g1 := HR2.out.free 0))
        all_goals
          go_end0
          have hE5 := HE5.out
          rw [HR5.out]
          exact ⟨rfl, ⟨_, _, _, _, hE5.app (Nat.le_trans hG4.out.big hf2.size) ho2 hs2 ((Fr.refl [b] w2).setCell (.inl (by simp)) _) (HR2.out.set 0 _)⟩, ((HF4.out.trans (FrE.of hf2)).trans (FrE.stp hE5.obuf hE5.lowb hs2)).trans (FrE.self hbB ((Fr.refl [b] w2).setCell (.inl (by simp)) _))⟩
end Go.Proofs.YtaaogjhaokaggaaGreatDoor
