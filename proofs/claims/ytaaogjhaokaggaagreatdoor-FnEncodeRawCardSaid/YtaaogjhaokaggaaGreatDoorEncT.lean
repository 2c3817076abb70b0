import Derived.Test.YtaaogjhaokaggaaGreatDoorEncS
namespace Go.Proofs.YtaaogjhaokaggaaGreatDoor
open Go.RowKit

/-- .. the same for the key, taken from its head or not. -/
theorem EncC.appKey {B : Nat} {ea : Addr} {w w1 w' : World} {b : Nat} {st : St} {vb vk vk0 ve vk' : Value} {pi : Int} {r : List UInt8} (h : EncC B ea w b st vb vk ve pi) (hBw : B ≤ w.heap.size) (h0 : vk0.ownBlock = vk.ownBlock) (ho : Own w1 5 vk' r) (hs : Stp w w1 vk0 vk') (f : Fr [b] w1 w') (hr : ER w' b #[vb, vk', .int .i64 st.start, .int .u8 st.sec, .bool st.lax, .bool st.bad, ve, .int .i64 pi, .int .i64 st.mul]) :
    EncC B ea w' b { st with key := r } vb vk' ve pi := by
  have hb1 : ER w1 b #[vb, vk, .int .i64 st.start, .int .u8 st.sec, .bool st.lax, .bool st.bad, ve, .int .i64 pi, .int .i64 st.mul] := h.row.fr hs.1 (fun hm => h.row.ne h.okey (by rw [← h0]; simpa using hm))
  have hk1 : Own w1 5 vb st.buf := hs.own h.obuf (fun g hg hv => h.apart g hg (h0 ▸ hv))
  refine ⟨hr, hk1.fr f (fun g hg hm => by simp at hm; subst hm; exact hb1.ne hk1 hg), ho.fr f (fun g hg hm => by simp at hm; subst hm; exact hb1.ne ho hg), fun g hg hk => ?_, h.lowb, fun g hg => ?_, h.low, (h.er.own (h0 ▸ hs.1) h.okey).frB f hb1⟩
  · rcases hs.2 with e | ⟨g', e, e'⟩
    · exact h.apart g hg (h0 ▸ e ▸ hk)
    · rw [e] at hk; cases hk; have := h.obuf.lt g hg; omega
  · rcases hs.2 with e | ⟨g', e, e'⟩
    · exact h.lowk g (h0 ▸ e ▸ hg)
    · rw [e] at hg; cases hg; omega
theorem FrE.stpK {B b : Nat} {w w' : World} {v v0 v' : Value} {l : List UInt8} (ho : Own w 5 v l) (hB : ∀ g, v.ownBlock = some g → B ≤ g) (h0 : v0.ownBlock = v.ownBlock) (h : Stp w w' v0 v') : FrE B b w w' :=
  FrE.stp (v := v) (v' := v') ho hB ⟨h0 ▸ h.1, h0 ▸ h.2⟩

/-- Is the key k behind the one before? -/
def keyLe (k p : List UInt8) : Bool := Op.bytesLess k p || k == p

/-- AddTag. -/
def St.tag (st : St) (k v : List UInt8) : St :=
  if st.sec ≠ 1 then st.fail 1
  else if st.lax = false ∧ (keyOk k = false ∨ keyOk v = false ∨ keyLe k st.key = true) then st.fail 1
  else
    let st2 := if st.lax = false then { st with key := k } else st
    if st.bad then st2 else { st2 with buf := st2.buf ++ ([44] ++ esc (tOf sK) k ++ [61] ++ esc (tOf sV) v) }

set_option maxHeartbeats 4000000 in
set_option maxRecDepth 100000 in
theorem addTag_any (hV : ValidSaid) {B : Nat} {ea : Addr} (b : Nat) (st : St) (k v : ByteArray) (w : World) (hG : Gl B ea w) (h : Enc B ea w b st) (hk : k.size ≤ 1000000) (hv : v.size ≤ 1000000) (hst : st.start ≤ st.buf.length) (hlen : st.buf.length ≤ 100000000) (_hkl : st.key.length ≤ 1000000) :
    Calls Tryz.prog 80 #[.pointer (some ⟨b, 0, none⟩), .string k, .string v] w fun e w' => e = .returned (.tuple #[]) ∧ Mid B ea b (st.tag k.data.toList v.data.toList) w w' := by
  obtain ⟨vb, vk, ve, pi, hE⟩ := h
  obtain ⟨⟨c0, c1, c2, c3, c4, c5, c6, c7, c8⟩, f0, f1, f2, f3, f4, f5, f6, f7, f8⟩ := hE.row.all
  have hbB := hE.low
  have HG := Lib.hid hG; clear hG
  have HE := Lib.hid hE; clear hE
  have hbig := HG.out.big
  obtain ⟨R, hR⟩ : ∃ R, R = st.tag k.data.toList v.data.toList := ⟨_, rfl⟩
  rw [← hR]
  by_cases h1 : st.sec = 1
  case neg =>
    have HR : Hid (R = st.fail 1) := Lib.hid (by rw [hR, St.tag, if_pos h1])
    clear hR
    obtain ⟨sec, hsec⟩ : ∃ sec, sec = st.sec := ⟨_, rfl⟩
    rw [← hsec] at c3 h1
    have hb1 : ((sec : Int) != 1) = true := by simp; omega
    have HSEC := Lib.hid hsec; clear hsec h1
    go_enter Tryz.func80, Tryz.ntmps80
    go_wp2_with (first
      | (go_at_call 115; refine (errNew_any (B := B) (ea := ea) _ _ hbig).mono ?_; rintro e w1 ⟨x, rfl, hx, hf1⟩)
      | (go_at_call 114; refine (setErr_any b st vb vk ve _ x 1 _ (HE.out.fr hf1) hx hst).mono ?_; rintro e w2 ⟨rfl, ⟨ve', hE2⟩, hf2⟩))
    refine bodyPost_ret (results_none rfl _ _ _) rfl ?_
    exact ⟨rfl, ⟨_, _, _, _, by rw [HR.out]; exact hE2⟩, (FrE.of hf1).trans (FrE.self hbB hf2)⟩
  case pos =>
    rw [h1] at c3
    have hR' : R = if st.lax = false ∧ (keyOk k.data.toList = false ∨ keyOk v.data.toList = false ∨ keyLe k.data.toList st.key = true) then st.fail 1
        else (if st.bad then (if st.lax = false then { st with key := k.data.toList } else st) else { (if st.lax = false then { st with key := k.data.toList } else st) with buf := st.buf ++ ([44] ++ esc (tOf sK) k.data.toList ++ [61] ++ esc (tOf sV) v.data.toList) }) := by
      rw [hR, St.tag, if_neg (by simp [h1])]
      cases st.lax <;> rfl
    have HR := Lib.hid hR'; clear hR hR' h1
    obtain ⟨vka, vkn, vkc, hvk, hvkn, hvk1, hvk2⟩ := own_shape2 HE.out.okey
    rw [hvk] at c1
    have HVK := Lib.hid hvk; clear hvk
    have HVKN := Lib.hid hvkn; clear hvkn
    have hk0 : (0:Int) ≤ (vkc : Int) := by omega
    go_enter Tryz.func80, Tryz.ntmps80
    obtain ⟨stM, hstM⟩ : ∃ x : St, x = if st.lax = false then { st with key := k.data.toList } else st := ⟨_, rfl⟩
    have HSM := Lib.hid hstM; clear hstM
    obtain ⟨lax, hlax⟩ : ∃ lax, lax = st.lax := ⟨_, rfl⟩
    rw [← hlax] at c4
    have HL := Lib.hid hlax; clear hlax
    obtain ⟨P, hP⟩ : ∃ P : ByteArray, P.data.toList = st.key := ⟨⟨st.key.toArray⟩, rfl⟩
    have HP := Lib.hid hP; clear hP
    have hcv : (convert 66 9 (.slice vka vkn vkc)).run Tryz.prog w = .ok (.string P) w := by
      rw [← HVK.out, show P = ⟨st.key.toArray⟩ from by rw [← HP.out]]; exact conv_own HE.out.okey
    go_upto_if 18 with fail
    go_cut [] (fun wx => ¬ (st.lax = false ∧ (keyOk k.data.toList = false ∨ keyOk v.data.toList = false ∨ keyLe k.data.toList st.key = true)) ∧ (∃ vk', EncC B ea wx b stM vb vk' ve pi) ∧ FrE B b w wx)
    case first =>
      cases lax with
      | true =>
        go_wp2_with fail
        go_meet
        exact ⟨by rw [← HL.out]; simp, ⟨vk, by rw [HSM.out, ← HL.out]; exact HE.out⟩, FrE.refl _ _ _⟩
      | false =>
        cases hk1 : keyOk k.data.toList with
        | false =>
          have HR4 : Hid (R = st.fail 1) := Lib.hid (by rw [HR.out, if_pos ⟨HL.out.symm, .inl hk1⟩])
          have HK := Lib.hid hk1; clear hk1
          clear HR
          go_wp2_with (first
            | (go_at_call 91; refine (validKey_any hV (B := B) (ea := ea) k _ hk HG.out.toGv).mono ?_; rintro e w1 ⟨rfl, hf1⟩; rw [HK.out])
            | (go_at_call 115; refine (errNew_any (B := B) (ea := ea) _ _ (Nat.le_trans hbig hf1.size)).mono ?_; rintro e w2 ⟨x, rfl, hx, hf2⟩)
            | (go_at_call 114; refine (setErr_any b st vb vk ve _ x 1 _ ((HE.out.fr hf1).fr hf2) hx hst).mono ?_; rintro e w3 ⟨rfl, ⟨ve', hE3⟩, hf3⟩))
          refine bodyPost_ret (results_none rfl _ _ _) rfl ?_
          exact ⟨rfl, ⟨_, _, _, _, by rw [HR4.out]; exact hE3⟩, ((FrE.of hf1).trans (FrE.of hf2)).trans (FrE.self hbB hf3)⟩
        | true =>
        have HK := Lib.hid hk1; clear hk1
        cases hk2 : keyOk v.data.toList with
        | false =>
          have HR4 : Hid (R = st.fail 1) := Lib.hid (by rw [HR.out, if_pos ⟨HL.out.symm, .inr (.inl hk2)⟩])
          have HK2 := Lib.hid hk2; clear hk2
          clear HR
          go_wp2_with (first
            | (go_at_call_of 91 (Value.string k); refine (validKey_any hV (B := B) (ea := ea) k _ hk HG.out.toGv).mono ?_; rintro e w1 ⟨rfl, hf1⟩; rw [HK.out])
            | (go_at_call_of 91 (Value.string v); refine (validKey_any hV (B := B) (ea := ea) v _ hv (HG.out.frE (FrE.of (b := b) hf1)).toGv).mono ?_; rintro e w2 ⟨rfl, hf2⟩; rw [HK2.out])
            | (go_at_call 115; refine (errNew_any (B := B) (ea := ea) _ _ (Nat.le_trans hbig (hf1.trans hf2).size)).mono ?_; rintro e w3 ⟨x, rfl, hx, hf3⟩)
            | (go_at_call 114; refine (setErr_any b st vb vk ve _ x 1 _ (((HE.out.fr hf1).fr hf2).fr hf3) hx hst).mono ?_; rintro e w4 ⟨rfl, ⟨ve', hE3⟩, hf4⟩))
          refine bodyPost_ret (results_none rfl _ _ _) rfl ?_
          exact ⟨rfl, ⟨_, _, _, _, by rw [HR4.out]; exact hE3⟩, (((FrE.of hf1).trans (FrE.of hf2)).trans (FrE.of hf3)).trans (FrE.self hbB hf4)⟩
        | true =>
          have HK2 := Lib.hid hk2; clear hk2
          go_upto_if 37 with (first
            | (go_at_call_of 91 (Value.string k); refine (validKey_any hV (B := B) (ea := ea) k _ hk HG.out.toGv).mono ?_; rintro e w1 ⟨rfl, hf1⟩; rw [HK.out])
            | (go_at_call_of 91 (Value.string v); refine (validKey_any hV (B := B) (ea := ea) v _ hv (HG.out.frE (FrE.of (b := b) hf1)).toGv).mono ?_; rintro e w2 ⟨rfl, hf2⟩; rw [HK2.out]; have hf12 := hf1.trans hf2; have HE2 := Lib.hid (HE.out.fr hf12); have d1 := HE2.out.row.all.1.2.1; rw [HVK.out] at d1; have hcv2 : (convert 66 9 (.slice vka vkn vkc)).run Tryz.prog w2 = .ok (.string P) w2 := (by rw [← HVK.out, show P = ⟨st.key.toArray⟩ from by rw [← HP.out]]; exact conv_own HE2.out.okey)))
          have hf12 := hf1.trans hf2
          have hq : (Op.bytesLess k.toList P.toList || k.toList == P.toList) = keyLe k.data.toList st.key := by rw [ByteArray.toList_eq, ByteArray.toList_eq, HP.out]; rfl
          rw [hq]
          clear hq
          cases hle : keyLe k.data.toList st.key with
          | true =>
            have HR4 : Hid (R = st.fail 1) := Lib.hid (by rw [HR.out, if_pos ⟨HL.out.symm, .inr (.inr hle)⟩])
            clear HR hle
            go_wp2_with (first
              | (go_at_call 115; refine (errNew_any (B := B) (ea := ea) _ _ (Nat.le_trans hbig hf12.size)).mono ?_; rintro e w3 ⟨x, rfl, hx, hf3⟩)
              | (go_at_call 114; refine (setErr_any b st vb vk ve _ x 1 _ (HE2.out.fr hf3) hx hst).mono ?_; rintro e w4 ⟨rfl, ⟨ve', hE3⟩, hf4⟩))
            refine bodyPost_ret (results_none rfl _ _ _) rfl ?_
            exact ⟨rfl, ⟨_, _, _, _, by rw [HR4.out]; exact hE3⟩, ((FrE.of hf12).trans (FrE.of hf3)).trans (FrE.self hbB hf4)⟩
          | false =>
            have hno : ¬ (st.lax = false ∧ (keyOk k.data.toList = false ∨ keyOk v.data.toList = false ∨ keyLe k.data.toList st.key = true)) := by rw [HK.out, HK2.out, hle]; simp
            have HNO := Lib.hid hno; clear hno hle HR
            have KC1 : Hid (Own w2 5 (.slice vka 0 vkc) []) := Lib.hid (by have := (HE2.out.okey.cut 0 (Nat.zero_le _)).1; rw [HVK.out] at this; exact this)
            have KL : Hid (([] : List UInt8).length + k.data.toList.length ≤ 70368744177664) := Lib.hid (by have hz : k.data.toList.length = k.size := (by simp); rw [hz]; simp only [List.length_nil]; omega)
            have KC2 : Hid ((Value.slice vka 0 vkc).ownBlock = vk.ownBlock) := Lib.hid (by have := (HE2.out.okey.cut 0 (Nat.zero_le _)).2; rw [HVK.out] at this ⊢; exact this)
            have HB2 : Hid (B ≤ w2.heap.size) := Lib.hid (Nat.le_trans hbig hf12.size)
            clear hcv
            go_wp2_with (first
              | (at_builtin; refine wpAppS w2 (o := ⟨some 48, _, _, _, _, _⟩) rfl (.tmp 46) (.tmp 47) 9 rfl (.slice vka 0 vkc) [] k.data.toList (.string k) rfl rfl KC1.out (srcStr _ k) KL.out ?_; intro v5 w5 ho5 hs5; obtain ⟨va5, n5, vc5, rfl, hn5, _, _⟩ := own_shape2 ho5; have HN5 := Lib.hid hn5; clear hn5; have HR9 := Lib.hid (HE2.out.row.fr hs5.1 (fun hm => HE2.out.row.ne HE2.out.okey (by rw [← KC2.out]; simpa using hm))); have d9 := HR9.out.all.1.2.1; have g9 := HR9.out.free 1))
            go_meet
            rw [HSM.out, if_pos HL.out.symm]
            exact ⟨HNO.out, ⟨_, HE2.out.appKey HB2.out KC2.out ho5 hs5 ((Fr.refl [b] w5).setCell (.inl (by simp)) _) (HR9.out.set 1 _)⟩, ((FrE.of hf12).trans (FrE.stpK HE2.out.okey HE2.out.lowk KC2.out hs5)).trans (FrE.self hbB ((Fr.refl [b] w5).setCell (.inl (by simp)) _))⟩
    obtain ⟨hno, ⟨vk1, hE1⟩, hF1⟩ := hcut
    obtain ⟨w1, hwc⟩ : ∃ x, x = wc := ⟨_, rfl⟩
    subst hwc
    have HE1 := Lib.hid hE1; clear hE1
    have HGG1 := Lib.hid (HG.out.frE hF1)
    have HF1 := Lib.hid hF1; clear hF1
    have HR1 : Hid (R = if st.bad then stM else { stM with buf := st.buf ++ ([44] ++ esc (tOf sK) k.data.toList ++ [61] ++ esc (tOf sV) v.data.toList) }) := Lib.hid (by rw [HR.out, if_neg hno, ← HSM.out])
    have hsb : stM.buf = st.buf ∧ stM.bad = st.bad := by rw [HSM.out]; split <;> exact ⟨rfl, rfl⟩
    clear hno HR HVK HVKN hcv hk0 hvk1 hvk2 c0 c1 c2 c3 c4 c5 c6 c7 c8 f0 f1 f2 f3 f4 f5 f6 f7 f8 HE
    obtain ⟨⟨c0, c1, c2, c3, c4, c5, c6, c7, c8⟩, f0, f1, f2, f3, f4, f5, f6, f7, f8⟩ := HE1.out.row.all
    rw [hsb.2] at c5
    have HSB := Lib.hid hsb; clear hsb
    cases hbad : st.bad with
    | true =>
      rw [hbad] at c5
      have HR2 : Hid (R = stM) := Lib.hid (by rw [HR1.out, hbad]; rfl)
      clear HR1 hbad
      go_wp2_with fail
      refine bodyPost_ret (results_none rfl _ _ _) rfl ?_
      exact ⟨rfl, ⟨_, _, _, _, by rw [HR2.out]; exact HE1.out⟩, HF1.out⟩
    | false =>
    rw [hbad] at c5
    have HR2 : Hid (R = { stM with buf := stM.buf ++ ([44] ++ esc (tOf sK) k.data.toList ++ [61] ++ esc (tOf sV) v.data.toList) }) := Lib.hid (by rw [HR1.out, hbad, HSB.out.1]; rfl)
    clear HR1 hbad
    obtain ⟨st1, hst1⟩ : ∃ x, x = stM := ⟨_, rfl⟩
    subst hst1
    obtain ⟨vb1, hvb1⟩ : ∃ x, x = vb := ⟨_, rfl⟩
    subst hvb1
    have hl1 : st1.buf.length ≤ 100000000 := by rw [HSB.out.1]; exact hlen
    obtain ⟨va1, n1, vc1, hv1, hn1, hx1, hy1⟩ := own_shape2 HE1.out.obuf
    rw [hv1] at c0
    have HV1 := Lib.hid hv1; clear hv1
    have HN1 := Lib.hid hn1; clear hn1
    go_upto_region 12 with (first
      | (at_builtin; refine wpApp1 w1 (o := ⟨some 61, _, _, _, _, _⟩) rfl (.tmp 59) (.tmp 60) rfl vb1 st1.buf _ 44 rfl HV1.out.symm rfl HE1.out.obuf (by omega) ?_; intro v5 w5 ho5 hs5; obtain ⟨va5, n5, vc5, rfl, hn5, _, _⟩ := own_shape2 ho5; have HN5 := Lib.hid hn5; clear hn5; have HR9 := Lib.hid (HE1.out.row.fr hs5.1 (fun hm => HE1.out.row.ne HE1.out.obuf (by simpa using hm))); have d9 := HR9.out.all.1.1; have g9 := HR9.out.free 0))
    obtain ⟨w2, hw2⟩ : ∃ x, x = w5.setCell ⟨b, 0, none⟩ (.slice va5 n5 vc5) := ⟨_, rfl⟩
    rw [← hw2]
    obtain ⟨st2, hst2⟩ : ∃ x : St, x = { st1 with buf := st1.buf ++ [44] } := ⟨_, rfl⟩
    obtain ⟨vb2, hvb2⟩ : ∃ x, x = Value.slice va5 n5 vc5 := ⟨_, rfl⟩
    have hE2 : EncC B ea w2 b st2 vb2 vk1 ve pi := by
      rw [hw2, hst2, hvb2]; exact HE1.out.app HGG1.out.big ho5 hs5 ((Fr.refl [b] w5).setCell (.inl (by simp)) _) (HR9.out.set 0 _)
    have hF2 : FrE B b w w2 := by
      rw [hw2]; exact (HF1.out.trans (FrE.stp HE1.out.obuf HE1.out.lowb hs5)).trans (FrE.self hbB ((Fr.refl [b] w5).setCell (.inl (by simp)) _))
    have HGG2 := Lib.hid (HG.out.frE hF2)
    have hl2 : st2.buf.length ≤ 100000001 := by rw [hst2]; simp only [List.length_append, List.length_singleton]; omega
    have HE2 := Lib.hid hE2
    have HF2 := Lib.hid hF2
    have HST2 := Lib.hid hst2
    clear c0 c1 c2 c3 c4 c5 c6 c7 c8 f0 f1 f2 f3 f4 f5 f6 f7 f8 d9 g9 HR9 ho5 hs5 hw2 hE2 hF2 hst2 hvb2 hx1 hy1 HN5
    obtain ⟨⟨c0, c1, c2, c3, c4, c5, c6, c7, c8⟩, f0, f1, f2, f3, f4, f5, f6, f7, f8⟩ := HE2.out.row.all
    obtain ⟨st3, hst3⟩ : ∃ x : St, x = { st2 with buf := st2.buf ++ esc (tOf sK) k.data.toList } := ⟨_, rfl⟩
    have HST3 := Lib.hid hst3
    have hl3 : st3.buf.length ≤ 102000001 := by
      have h1 := esc_len (tOf sK) k.data.toList
      have e0 : k.data.toList.length = k.size := by simp
      rw [hst3]; simp only [List.length_append]; omega
    clear hst3
    go_cut [] (fun wx => (∃ vb', EncC B ea wx b st3 vb' vk1 ve pi) ∧ FrE B b w wx)
    case first =>
      go_region_with (first
        | (go_at_call 117; refine (escK_any _).mono ?_; rintro e x1 ⟨rfl, hx1, hf1⟩; have hf2 := (Fr.refl [] w2).drew.trans hf1; have HE5 := Lib.hid (HE2.out.fr hf2); have d0 := HE5.out.row.all.1.1; have g0 := HE5.out.row.free 0)
        | (go_at_call 73; refine (appendEscaped_any _ _ _ st2.buf _ _ hk (by omega) hx1 HE5.out.obuf (fun g hg e => absurd (HE2.out.obuf.lt g hg) (by rw [← e]; exact Nat.lt_irrefl _))).mono ?_; rintro e x2 ⟨vb', rfl, ho2, hs2⟩; obtain ⟨va', n', vc', rfl, hn', _, _⟩ := own_shape2 ho2; have HN' := Lib.hid hn'; clear hn'; have HRW := Lib.hid (HE5.out.row.fr hs2.1 (fun hm => HE5.out.row.ne HE5.out.obuf (by simpa using hm))); have d1 := HRW.out.all.1.1; have g1 := HRW.out.free 0))
      all_goals
        go_wp2_with fail
        go_meet
        have hE5 := HE5.out
        exact ⟨⟨_, by rw [HST3.out]; exact hE5.app (Nat.le_trans HGG2.out.big hf2.size) ho2 hs2 ((Fr.refl [b] x2).setCell (.inl (by simp)) _) (HRW.out.set 0 _)⟩, ((HF2.out.trans (FrE.of hf2)).trans (FrE.stp hE5.obuf hE5.lowb hs2)).trans (FrE.self hbB ((Fr.refl [b] x2).setCell (.inl (by simp)) _))⟩
    obtain ⟨⟨vb3, hE3⟩, hF3⟩ := hcut
    obtain ⟨w3, hwc3⟩ : ∃ x, x = wc := ⟨_, rfl⟩
    subst hwc3
    have HGG3 := Lib.hid (HG.out.frE hF3)
    have HE3 := Lib.hid hE3
    have HF3 := Lib.hid hF3
    clear c0 c1 c2 c3 c4 c5 c6 c7 c8 f0 f1 f2 f3 f4 f5 f6 f7 f8 hE3 hF3
    obtain ⟨⟨c0, c1, c2, c3, c4, c5, c6, c7, c8⟩, f0, f1, f2, f3, f4, f5, f6, f7, f8⟩ := HE3.out.row.all
    obtain ⟨va3, n3, vc3, hv3, hn3, hx3, hy3⟩ := own_shape2 HE3.out.obuf
    rw [hv3] at c0
    have HV3 := Lib.hid hv3; clear hv3
    have HN3 := Lib.hid hn3; clear hn3
    go_upto_region 14 with (first
      | (at_builtin; refine wpApp1 w3 (o := ⟨some 80, _, _, _, _, _⟩) rfl (.tmp 78) (.tmp 79) rfl vb3 st3.buf _ 61 rfl HV3.out.symm rfl HE3.out.obuf (by omega) ?_; intro v5 w5 ho5 hs5; obtain ⟨va5, n5, vc5, rfl, hn5, _, _⟩ := own_shape2 ho5; have HN5 := Lib.hid hn5; clear hn5; have HR9 := Lib.hid (HE3.out.row.fr hs5.1 (fun hm => HE3.out.row.ne HE3.out.obuf (by simpa using hm))); have d9 := HR9.out.all.1.1; have g9 := HR9.out.free 0))
    obtain ⟨w4, hw4⟩ : ∃ x, x = w5.setCell ⟨b, 0, none⟩ (.slice va5 n5 vc5) := ⟨_, rfl⟩
    rw [← hw4]
    obtain ⟨st4, hst4⟩ : ∃ x : St, x = { st3 with buf := st3.buf ++ [61] } := ⟨_, rfl⟩
    obtain ⟨vb4, hvb4⟩ : ∃ x, x = Value.slice va5 n5 vc5 := ⟨_, rfl⟩
    have hE4 : EncC B ea w4 b st4 vb4 vk1 ve pi := by
      rw [hw4, hst4, hvb4]; exact HE3.out.app HGG3.out.big ho5 hs5 ((Fr.refl [b] w5).setCell (.inl (by simp)) _) (HR9.out.set 0 _)
    have hF4 : FrE B b w w4 := by
      rw [hw4]; exact (HF3.out.trans (FrE.stp HE3.out.obuf HE3.out.lowb hs5)).trans (FrE.self hbB ((Fr.refl [b] w5).setCell (.inl (by simp)) _))
    have HGG4 := Lib.hid (HG.out.frE hF4)
    have hl4 : st4.buf.length ≤ 102000002 := by rw [hst4]; simp only [List.length_append, List.length_singleton]; omega
    have HE4 := Lib.hid hE4
    have HF4 := Lib.hid hF4
    have HST4 := Lib.hid hst4
    clear c0 c1 c2 c3 c4 c5 c6 c7 c8 f0 f1 f2 f3 f4 f5 f6 f7 f8 d9 g9 HR9 ho5 hs5 hw4 hE4 hF4 hst4 hvb4 hx3 hy3 HN5
    obtain ⟨⟨c0, c1, c2, c3, c4, c5, c6, c7, c8⟩, f0, f1, f2, f3, f4, f5, f6, f7, f8⟩ := HE4.out.row.all
    obtain ⟨st5, hst5⟩ : ∃ x : St, x = { st4 with buf := st4.buf ++ esc (tOf sV) v.data.toList } := ⟨_, rfl⟩
    have HST5 := Lib.hid hst5
    clear hst5
    go_region_with (first
        | (go_at_call 118; refine (escV_any _).mono ?_; rintro e x1 ⟨rfl, hx1, hf1⟩; have hf2 := (Fr.refl [] w4).drew.trans hf1; have HE5 := Lib.hid (HE4.out.fr hf2); have d0 := HE5.out.row.all.1.1; have g0 := HE5.out.row.free 0)
        | (go_at_call 73; refine (appendEscaped_any _ _ _ st4.buf _ _ hv (by omega) hx1 HE5.out.obuf (fun g hg e => absurd (HE4.out.obuf.lt g hg) (by rw [← e]; exact Nat.lt_irrefl _))).mono ?_; rintro e x2 ⟨vb', rfl, ho2, hs2⟩; obtain ⟨va', n', vc', rfl, hn', _, _⟩ := own_shape2 ho2; have HN' := Lib.hid hn'; clear hn'; have HRW := Lib.hid (HE5.out.row.fr hs2.1 (fun hm => HE5.out.row.ne HE5.out.obuf (by simpa using hm))); have d1 := HRW.out.all.1.1; have g1 := HRW.out.free 0))
    all_goals
      go_end0
      have hE5 := HE5.out
      rw [HR2.out, show ({ st1 with buf := st1.buf ++ ([44] ++ esc (tOf sK) k.data.toList ++ [61] ++ esc (tOf sV) v.data.toList) } : St) = { st4 with buf := st4.buf ++ esc (tOf sV) v.data.toList } from by rw [HST4.out, HST3.out, HST2.out]; simp]
      exact ⟨rfl, ⟨_, _, _, _, hE5.app (Nat.le_trans HGG4.out.big hf2.size) ho2 hs2 ((Fr.refl [b] x2).setCell (.inl (by simp)) _) (HRW.out.set 0 _)⟩, ((HF4.out.trans (FrE.of hf2)).trans (FrE.stp hE5.obuf hE5.lowb hs2)).trans (FrE.self hbB ((Fr.refl [b] x2).setCell (.inl (by simp)) _))⟩
end Go.Proofs.YtaaogjhaokaggaaGreatDoor
