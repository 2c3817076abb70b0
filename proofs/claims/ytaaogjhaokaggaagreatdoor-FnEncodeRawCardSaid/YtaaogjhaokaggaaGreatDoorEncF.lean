import Derived.Test.YtaaogjhaokaggaaGreatDoorEncT
import Derived.Test.YtaaogjhaokaggaaGreatDoorValA
namespace Go.Proofs.YtaaogjhaokaggaaGreatDoor
open Go.RowKit

/-- A turn of the encoder and of its buffer alone. -/
def FrQ (b : Nat) (w w' : World) (v v' : Value) : Prop := Fr (b :: v.ownBlock.toList) w w' ∧ (v'.ownBlock = v.ownBlock ∨ ∃ g, v'.ownBlock = some g ∧ w.heap.size ≤ g)
theorem FrQ.refl (b : Nat) (w : World) (v : Value) : FrQ b w w v v := ⟨Fr.refl _ _, .inl rfl⟩
theorem FrQ.of {b : Nat} {w w' : World} {v : Value} (h : Fr [] w w') : FrQ b w w' v v := ⟨h.sub (by simp), .inl rfl⟩
theorem FrQ.self {b : Nat} {w w' : World} {v v' : Value} (h : Fr [b] w w') (e : v'.ownBlock = v.ownBlock := by rfl) : FrQ b w w' v v' := ⟨h.sub (by intro s hs; exact .inl (by simp at hs; simp [hs])), .inl e⟩
theorem FrQ.stp {b : Nat} {w w' : World} {v v' : Value} (h : Stp w w' v v') : FrQ b w w' v v' := ⟨h.1.sub (fun _ hs => .inl (List.mem_cons_of_mem _ hs)), h.2⟩
theorem FrQ.trans {b : Nat} {x y z : World} {u v t : Value} (h : FrQ b x y u v) (k : FrQ b y z v t) : FrQ b x z u t := by
  refine ⟨h.1.step k.1 (fun s hs => ?_), ?_⟩
  · rcases List.mem_cons.1 hs with rfl | hs
    · exact .inl (List.mem_cons_self ..)
    · rcases h.2 with e | ⟨g, e, e'⟩
      · exact .inl (List.mem_cons_of_mem _ (by rw [← e]; exact hs))
      · rw [e] at hs
        simp at hs
        subst hs
        exact .inr e'
  · rcases k.2 with e | ⟨g, e, e'⟩
    · rw [e]; exact h.2
    · exact .inr ⟨g, e, Nat.le_trans h.1.size e'⟩
theorem FrQ.toE {B b : Nat} {w w' : World} {v v' : Value} {l : List UInt8} (h : FrQ b w w' v v') (hbB : B ≤ b) (ho : Own w 5 v l) (hB : ∀ g, v.ownBlock = some g → B ≤ g) : FrE B b w w' := by
  refine ⟨_, h.1, fun s hs => ?_⟩
  rcases List.mem_cons.1 hs with rfl | hs
  · exact ⟨hbB, .inl rfl⟩
  · have hs' : v.ownBlock = some s := by simpa using hs
    refine ⟨hB s hs', .inr (.inr ?_)⟩
    rcases ho with ⟨rfl, _⟩ | ⟨g, cap, rfl, cur, fr, h1, _⟩
    · simp [Value.ownBlock] at hs'
    · simp [Value.ownBlock] at hs'; subst hs'; exact ⟨cur, fr, h1⟩
theorem FrQ.blk {b : Nat} {w w' : World} {v v' : Value} (h : FrQ b w w' v v') {g : Nat} {o : Obj} (hg : w.heap[g]? = some o) (hb : g ≠ b) (hv : v.ownBlock ≠ some g) : w'.heap[g]? = some o :=
  h.1.blk hg (fun hm => by rcases List.mem_cons.1 hm with e | e; exact hb e; exact hv (by simpa using e))
theorem LV.frQ {b : Nat} {w w' : World} {v v' u : Value} {x : Val} (h : FrQ b w w' v v') (hV : LV w u x) (hb : lvBlock u ≠ some b) (hne : ∀ g, lvBlock u = some g → v.ownBlock ≠ some g) : LV w' u x := by
  cases x with
  | str s =>
    obtain ⟨t, rfl, ht⟩ := hV
    refine ⟨t, rfl, ht.fr h.1 (fun g hg hm => ?_)⟩
    rcases List.mem_cons.1 hm with e | e
    · exact hb (by simp [lvBlock, hg, e])
    · exact hne g (by simp [lvBlock, hg]) (by simpa using e)
  | int n => exact hV
  | uint n => exact hV
  | flt n => exact hV
  | bool b => exact hV
theorem lv_shape {w : World} {v : Value} {x : Val} (h : LV w v x) : ∃ n a c d k, v = .agg #[.int .u64 n, .slice a c d, .int .u8 k] := by
  cases x with
  | str s =>
    obtain ⟨t, rfl, ht⟩ := h
    obtain ⟨a, n, c, rfl, _⟩ := own_shape2 ht
    exact ⟨_, _, _, _, _, rfl⟩
  | int n => exact ⟨_, _, _, _, _, h.1⟩
  | uint n => exact ⟨_, _, _, _, _, h.1⟩
  | flt n => exact ⟨_, _, _, _, _, h⟩
  | bool b => exact ⟨_, _, _, _, _, h⟩

/-- AddField. -/
def St.field (F : Nat → List UInt8) (st : St) (k : List UInt8) (x : Val) : St :=
  if st.sec ≠ 2 ∧ st.sec ≠ 1 then st.fail 1
  else if st.lax = false ∧ keyOk k = false then { st with sec := 2 }.fail 1
  else if st.bad then { st with sec := 2 }
  else { st with sec := 2, buf := st.buf ++ ([if st.sec = 1 then 32 else 44] ++ esc (tOf sK) k ++ [61] ++ valText F x) }

set_option maxHeartbeats 4000000 in
set_option maxRecDepth 100000 in
theorem addField_any (hV : ValidSaid) {F : Nat → List UInt8} {fin : Nat → Prop} (hF : FloatSaid F fin) {B : Nat} {ea : Addr} (b : Nat) (st : St) (k : ByteArray) (v : Value) (x : Val) (w0 : World) (hG : Gl B ea w0) (h : Enc B ea w0 b st) (hk : k.size ≤ 1000000) (hst : st.start ≤ st.buf.length) (hlen : st.buf.length ≤ 100000000)
    (hx : ∀ n, x = .flt n → fin n) (hxs : ∀ s, x = .str s → s.length ≤ 1000000) (hLV : LV w0 v x) (hap : ∀ u g, w0.cell? ⟨b, 0, none⟩ = some u → lvBlock v = some g → u.ownBlock ≠ some g) :
    Calls Tryz.prog 81 #[.pointer (some ⟨b, 0, none⟩), .string k, v] w0 fun e w' => e = .returned (.tuple #[]) ∧ Mid B ea b (st.field F k.data.toList x) w0 w' := by
  obtain ⟨vb, vk, ve, pi, hE⟩ := h
  obtain ⟨⟨z0, -⟩, -⟩ := hE.row.all
  obtain ⟨n, ta, tc, td, tk, hvs⟩ := lv_shape hLV
  subst hvs
  have hne := fun g hg => hap vb g z0 hg
  have hnb : lvBlock (.agg #[.int .u64 n, .slice ta tc td, .int .u8 tk]) ≠ some b := by
    cases x with
    | str s => obtain ⟨t, ht, ho⟩ := hLV; cases ht; simpa [lvBlock] using hE.row.ne ho
    | int _ => cases hLV.1; simp [lvBlock, Value.ownBlock]
    | uint _ => cases hLV.1; simp [lvBlock, Value.ownBlock]
    | flt _ => cases hLV; simp [lvBlock, Value.ownBlock]
    | bool _ => cases hLV; simp [lvBlock, Value.ownBlock]
  obtain ⟨w, hw⟩ : ∃ w, w = w0.alloc (.cells #[.int .u64 n, .slice ta tc td, .int .u8 tk] 69) := ⟨_, rfl⟩
  have hf0 : Fr [] w0 w := by rw [hw]; exact (Fr.refl _ _).alloc _
  have HBOX : Hid (w.heap[w0.heap.size]? = some (.cells #[.int .u64 n, .slice ta tc td, .int .u8 tk] 69)) := Lib.hid (by rw [hw]; show (w0.heap.push _)[w0.heap.size]? = _; exact Array.getElem?_push_size)
  have HLV := Lib.hid (show LV w (.agg #[.int .u64 n, .slice ta tc td, .int .u8 tk]) x from LV.frQ (b := b) (v := .slice none 0 0) (FrQ.of hf0) hLV hnb (by simp [Value.ownBlock]))
  have HNE := Lib.hid hne
  have HNB := Lib.hid hnb
  have HB0 : Hid (w0.heap.size ≠ b ∧ vb.ownBlock ≠ some w0.heap.size) := Lib.hid ⟨fun e => by have := (Array.getElem?_eq_some_iff.1 hE.row).1; omega, fun e => by have := hE.obuf.lt _ e; omega⟩
  have hEw := hE.fr hf0
  have HG := Lib.hid (hG.frE (FrE.of (b := b) hf0))
  have HF00 := Lib.hid hf0
  have hbB := hE.low
  clear hG hE hne hnb hap hLV z0
  obtain ⟨⟨c0, c1, c2, c3, c4, c5, c6, c7, c8⟩, f0, f1, f2, f3, f4, f5, f6, f7, f8⟩ := hEw.row.all
  have HE0 := Lib.hid hEw; clear hEw
  have hbig := HG.out.big
  have HW := Lib.hid hw
  obtain ⟨R, hR⟩ : ∃ R, R = st.field F k.data.toList x := ⟨_, rfl⟩
  rw [← hR]
  obtain ⟨sec, hsec⟩ : ∃ sec, sec = st.sec := ⟨_, rfl⟩
  rw [← hsec] at c3
  rw [St.field, ← hsec] at hR
  have HSEC := Lib.hid hsec; clear hsec
  obtain ⟨lax, hlax⟩ : ∃ lax, lax = st.lax := ⟨_, rfl⟩
  rw [← hlax] at c4
  have HL := Lib.hid hlax; clear hlax
  by_cases h12 : sec ≠ 2 ∧ sec ≠ 1
  · have HR : Hid (R = st.fail 1) := Lib.hid (by rw [hR, if_pos h12])
    have hb1 : ((sec : Int) != 1) = true := by simp; omega
    have hb2 : ((sec : Int) != 2) = true := by simp; omega
    clear hR h12 hf0
    go_enter Tryz.func81, Tryz.ntmps81
    go_upto_region 1 with fail
    rw [← HW.out]
    clear hw
    go_wp2_with (first
      | (go_at_call 115; refine (errNew_any (B := B) (ea := ea) _ _ hbig).mono ?_; rintro e w1 ⟨x, rfl, hx, hf1⟩)
      | (go_at_call 114; refine (setErr_any b st vb vk ve _ x 1 _ (HE0.out.fr hf1) hx hst).mono ?_; rintro e w2 ⟨rfl, ⟨ve', hE2⟩, hf2⟩))
    refine bodyPost_ret (results_none rfl _ _ _) rfl ?_
    exact ⟨rfl, ⟨_, _, _, _, by rw [HR.out]; exact hE2⟩, ((FrE.of HF00.out).trans (FrE.of hf1)).trans (FrE.self hbB hf2)⟩
  · have HR : Hid (R = (if st.lax = false ∧ keyOk k.data.toList = false then { st with sec := 2 }.fail 1
      else if st.bad then { st with sec := 2 }
      else { st with sec := 2, buf := st.buf ++ ([if sec = 1 then 32 else 44] ++ esc (tOf sK) k.data.toList ++ [61] ++ valText F x) })) := Lib.hid (by rw [hR, if_neg h12])
    have hs12 : sec = 2 ∨ sec = 1 := by omega
    clear hR h12 hf0
    obtain ⟨st1, hst1⟩ : ∃ x : St, x = { st with sec := 2 } := ⟨_, rfl⟩
    have HE1' : Hid (EncC B ea (w.setCell ⟨b, 3, none⟩ (.int .u8 2)) b st1 vb vk ve pi) := Lib.hid (by rw [hst1]; exact HE0.out.re ((Fr.refl [b] w).setCell (.inl (by simp)) _) _ pi (HE0.out.row.set 3 _) rfl rfl rfl)
    have HF1' : Hid (FrQ b w (w.setCell ⟨b, 3, none⟩ (.int .u8 2)) vb vb) := Lib.hid (FrQ.self ((Fr.refl [b] w).setCell (.inl (by simp)) _))
    have hss : st1.start ≤ st1.buf.length := by rw [hst1]; exact hst
    have HR1 : Hid (R = (if st.lax = false ∧ keyOk k.data.toList = false then st1.fail 1
      else if st.bad then st1
      else { st1 with buf := st1.buf ++ ([if sec = 1 then 32 else 44] ++ esc (tOf sK) k.data.toList ++ [61] ++ valText F x) })) := Lib.hid (by rw [HR.out, hst1])
    have hsb : st1.buf = st.buf ∧ st1.bad = st.bad := by rw [hst1]; exact ⟨rfl, rfl⟩
    have HSB := Lib.hid hsb
    have HST1 := Lib.hid hst1
    clear hst1 HR hsb
    go_enter Tryz.func81, Tryz.ntmps81
    go_upto_region 1 with fail
    rw [← HW.out]
    clear hw
    go_cut [18] (fun v wx => v = .bool false ∧ wx = w)
    case first =>
      rcases hs12 with hs | hs
      all_goals
        subst hs
        go_wp2_with fail
        go_meet
        exact ⟨rfl, rfl⟩
    obtain ⟨rfl, hwc⟩ := hcut
    have hwc' := hwc.symm
    subst hwc'
    go_upto_if 33 with fail
    go_cut [] (fun wx => ¬ (st.lax = false ∧ keyOk k.data.toList = false) ∧ EncC B ea wx b st1 vb vk ve pi ∧ FrQ b w wx vb vb)
    case first =>
      cases lax with
      | true =>
        go_wp2_with fail
        go_meet
        exact ⟨by rw [← HL.out]; simp, HE1'.out, HF1'.out⟩
      | false =>
        have hGm := Lib.hid (HG.out.frE (HF1'.out.toE hbB HE0.out.obuf HE0.out.lowb))
        cases hk1 : keyOk k.data.toList with
        | true =>
          have HK := Lib.hid hk1; clear hk1
          go_wp2_with (go_at_call 91; refine (validKey_any hV (B := B) (ea := ea) k _ hk hGm.out.toGv).mono ?_; rintro e w1 ⟨rfl, hf1⟩; rw [HK.out])
          go_meet
          exact ⟨by rw [HK.out]; simp, HE1'.out.fr hf1, HF1'.out.trans (FrQ.of hf1)⟩
        | false =>
          have HR4 : Hid (R = st1.fail 1) := Lib.hid (by rw [HR1.out, if_pos ⟨HL.out.symm, hk1⟩])
          have HK := Lib.hid hk1; clear hk1
          clear HR1
          go_wp2_with (first
            | (go_at_call 91; refine (validKey_any hV (B := B) (ea := ea) k _ hk hGm.out.toGv).mono ?_; rintro e w1 ⟨rfl, hf1⟩; rw [HK.out])
            | (go_at_call 115; refine (errNew_any (B := B) (ea := ea) _ _ (Nat.le_trans hGm.out.big hf1.size)).mono ?_; rintro e w2 ⟨x, rfl, hx, hf2⟩)
            | (go_at_call 114; refine (setErr_any b st1 vb vk ve _ x 1 _ ((HE1'.out.fr hf1).fr hf2) hx hss).mono ?_; rintro e w3 ⟨rfl, ⟨ve', hE3⟩, hf3⟩))
          refine bodyPost_ret (results_none rfl _ _ _) rfl ?_
          exact ⟨rfl, ⟨_, _, _, _, by rw [HR4.out]; exact hE3⟩, ((((FrE.of HF00.out).trans (HF1'.out.toE hbB HE0.out.obuf HE0.out.lowb)).trans (FrE.of hf1)).trans (FrE.of hf2)).trans (FrE.self hbB hf3)⟩
    obtain ⟨hno, hE1, hF1⟩ := hcut
    obtain ⟨w1, hwc⟩ : ∃ x, x = wc := ⟨_, rfl⟩
    subst hwc
    have HR2 : Hid (R = (if st.bad then st1 else { st1 with buf := st1.buf ++ ([if sec = 1 then 32 else 44] ++ esc (tOf sK) k.data.toList ++ [61] ++ valText F x) })) := Lib.hid (by rw [HR1.out, if_neg hno])
    have HGG1 := Lib.hid (HG.out.frE (hF1.toE hbB HE0.out.obuf HE0.out.lowb))
    have HE1 := Lib.hid hE1; clear hE1
    have HF1 := Lib.hid hF1; clear hF1
    clear hno HR1 HE1' HF1' c0 c1 c2 c3 c4 c5 c6 c7 c8 f0 f1 f2 f3 f4 f5 f6 f7 f8
    obtain ⟨⟨c0, c1, c2, c3, c4, c5, c6, c7, c8⟩, f0, f1, f2, f3, f4, f5, f6, f7, f8⟩ := HE1.out.row.all
    rw [HSB.out.2] at c5
    cases hbad : st.bad with
    | true =>
      rw [hbad] at c5
      have HR3 : Hid (R = st1) := Lib.hid (by rw [HR2.out, hbad]; rfl)
      clear HR2 hbad
      go_wp2_with fail
      refine bodyPost_ret (results_none rfl _ _ _) rfl ?_
      exact ⟨rfl, ⟨_, _, _, _, by rw [HR3.out]; exact HE1.out⟩, (FrE.of HF00.out).trans (HF1.out.toE hbB HE0.out.obuf HE0.out.lowb)⟩
    | false =>
    rw [hbad] at c5
    have HR3 : Hid (R = { st1 with buf := st1.buf ++ ([if sec = 1 then 32 else 44] ++ esc (tOf sK) k.data.toList ++ [61] ++ valText F x) }) := Lib.hid (by rw [HR2.out, hbad]; rfl)
    clear HR2 hbad
    have hl1 : st1.buf.length ≤ 100000000 := by rw [HSB.out.1]; exact hlen
    obtain ⟨vb1, hvb1⟩ : ∃ x, x = vb := ⟨_, rfl⟩
    rw [← hvb1] at c0
    have HE1 : Hid (EncC B ea w1 b st1 vb1 vk ve pi) := Lib.hid (by rw [hvb1]; exact HE1.out)
    have HF1 : Hid (FrQ b w w1 vb vb1) := Lib.hid (by rw [hvb1]; exact HF1.out)
    clear hvb1
    obtain ⟨st2, hst2⟩ : ∃ x : St, x = { st1 with buf := st1.buf ++ [if sec = 1 then 32 else 44] } := ⟨_, rfl⟩
    have hl2 : st2.buf.length ≤ 100000001 := by rw [hst2]; simp only [List.length_append, List.length_singleton]; omega
    have HST2 := Lib.hid hst2; clear hst2
    obtain ⟨va1, n1, vc1, hv1, hn1, hx1, hy1⟩ := own_shape2 HE1.out.obuf
    rw [hv1] at c0
    have HV1 := Lib.hid hv1; clear hv1
    have HN1 := Lib.hid hn1; clear hn1
    go_upto_if 45 with fail
    go_cut [] (fun wx => (∃ vb', EncC B ea wx b st2 vb' vk ve pi ∧ FrQ b w wx vb vb'))
    case first =>
      rcases hs12 with hs | hs
      · have HT : Hid (st2 = { st1 with buf := st1.buf ++ [44] }) := Lib.hid (by rw [HST2.out, hs]; rfl)
        subst hs
        clear HST2
        go_wp2_with (first
          | (at_builtin; refine wpApp1 w1 (o := ⟨some 61, _, _, _, _, _⟩) rfl (.tmp 59) (.tmp 60) rfl vb1 st1.buf _ 44 rfl HV1.out.symm rfl HE1.out.obuf (by omega) ?_; intro v5 w5 ho5 hs5; obtain ⟨va5, n5, vc5, rfl, hn5, _, _⟩ := own_shape2 ho5; have HN5 := Lib.hid hn5; clear hn5; have HR9 := Lib.hid (HE1.out.row.fr hs5.1 (fun hm => HE1.out.row.ne HE1.out.obuf (by simpa using hm))); have d9 := HR9.out.all.1.1; have g9 := HR9.out.free 0))
        go_meet
        exact ⟨_, by rw [HT.out]; exact HE1.out.app HGG1.out.big ho5 hs5 ((Fr.refl [b] w5).setCell (.inl (by simp)) _) (HR9.out.set 0 _), (HF1.out.trans (FrQ.stp hs5)).trans (FrQ.self ((Fr.refl [b] w5).setCell (.inl (by simp)) _))⟩
      · have HT : Hid (st2 = { st1 with buf := st1.buf ++ [32] }) := Lib.hid (by rw [HST2.out, hs]; rfl)
        subst hs
        clear HST2
        go_wp2_with (first
          | (at_builtin; refine wpApp1 w1 (o := ⟨some 52, _, _, _, _, _⟩) rfl (.tmp 50) (.tmp 51) rfl vb1 st1.buf _ 32 rfl HV1.out.symm rfl HE1.out.obuf (by omega) ?_; intro v5 w5 ho5 hs5; obtain ⟨va5, n5, vc5, rfl, hn5, _, _⟩ := own_shape2 ho5; have HN5 := Lib.hid hn5; clear hn5; have HR9 := Lib.hid (HE1.out.row.fr hs5.1 (fun hm => HE1.out.row.ne HE1.out.obuf (by simpa using hm))); have d9 := HR9.out.all.1.1; have g9 := HR9.out.free 0))
        go_meet
        exact ⟨_, by rw [HT.out]; exact HE1.out.app HGG1.out.big ho5 hs5 ((Fr.refl [b] w5).setCell (.inl (by simp)) _) (HR9.out.set 0 _), (HF1.out.trans (FrQ.stp hs5)).trans (FrQ.self ((Fr.refl [b] w5).setCell (.inl (by simp)) _))⟩
    obtain ⟨vb2, hE2, hF2⟩ := hcut
    obtain ⟨w2, hwc2⟩ : ∃ x, x = wc := ⟨_, rfl⟩
    subst hwc2
    have HGG2 := Lib.hid (HG.out.frE (hF2.toE hbB HE0.out.obuf HE0.out.lowb))
    have HE2 := Lib.hid hE2
    have HF2 := Lib.hid hF2
    clear c0 c1 c2 c3 c4 c5 c6 c7 c8 f0 f1 f2 f3 f4 f5 f6 f7 f8 hE2 hF2
    obtain ⟨⟨c0, c1, c2, c3, c4, c5, c6, c7, c8⟩, f0, f1, f2, f3, f4, f5, f6, f7, f8⟩ := HE2.out.row.all
    go_upto_region 12 with fail
    obtain ⟨st3, hst3⟩ : ∃ x : St, x = { st2 with buf := st2.buf ++ esc (tOf sK) k.data.toList } := ⟨_, rfl⟩
    have HST3 := Lib.hid hst3
    have hl3 : st3.buf.length ≤ 102000001 := by
      have h1 := esc_len (tOf sK) k.data.toList
      have e0 : k.data.toList.length = k.size := by simp
      rw [hst3]; simp only [List.length_append]; omega
    clear hst3
    go_cut [] (fun wx => (∃ vb', EncC B ea wx b st3 vb' vk ve pi ∧ FrQ b w wx vb vb'))
    case first =>
      go_region_with (first
        | (go_at_call 119; refine (escF_any _).mono ?_; rintro e x1 ⟨rfl, hx1, hf1⟩; have hf2 := (Fr.refl [] w2).drew.trans hf1; have HE5 := Lib.hid (HE2.out.fr hf2); have d0 := HE5.out.row.all.1.1; have g0 := HE5.out.row.free 0)
        | (go_at_call 73; refine (appendEscaped_any _ _ _ st2.buf _ _ hk (by omega) hx1 HE5.out.obuf (fun g hg e => absurd (HE2.out.obuf.lt g hg) (by rw [← e]; exact Nat.lt_irrefl _))).mono ?_; rintro e x2 ⟨vb', rfl, ho2, hs2⟩; obtain ⟨va', n', vc', rfl, hn', _, _⟩ := own_shape2 ho2; have HN' := Lib.hid hn'; clear hn'; have HRW := Lib.hid (HE5.out.row.fr hs2.1 (fun hm => HE5.out.row.ne HE5.out.obuf (by simpa using hm))); have d1 := HRW.out.all.1.1; have g1 := HRW.out.free 0))
      all_goals
        go_wp2_with fail
        go_meet
        have hE5 := HE5.out
        exact ⟨_, by rw [HST3.out]; exact hE5.app (Nat.le_trans HGG2.out.big hf2.size) ho2 hs2 ((Fr.refl [b] x2).setCell (.inl (by simp)) _) (HRW.out.set 0 _), ((HF2.out.trans (FrQ.of hf2)).trans (FrQ.stp hs2)).trans (FrQ.self ((Fr.refl [b] x2).setCell (.inl (by simp)) _))⟩
    obtain ⟨vb3, hE3, hF3⟩ := hcut
    obtain ⟨w3, hwc3⟩ : ∃ x, x = wc := ⟨_, rfl⟩
    subst hwc3
    have HGG3 := Lib.hid (HG.out.frE (hF3.toE hbB HE0.out.obuf HE0.out.lowb))
    have HE3 := Lib.hid hE3
    have HF3 := Lib.hid hF3
    clear c0 c1 c2 c3 c4 c5 c6 c7 c8 f0 f1 f2 f3 f4 f5 f6 f7 f8 hE3 hF3
    obtain ⟨⟨c0, c1, c2, c3, c4, c5, c6, c7, c8⟩, f0, f1, f2, f3, f4, f5, f6, f7, f8⟩ := HE3.out.row.all
    obtain ⟨va3, n3, vc3, hv3, hn3, hx3, hy3⟩ := own_shape2 HE3.out.obuf
    rw [hv3] at c0
    have HV3 := Lib.hid hv3; clear hv3
    have HN3 := Lib.hid hn3; clear hn3
    go_upto_region 14 with (first
      | (at_builtin; refine wpApp1 w3 (o := ⟨some 80, _, _, _, _, _⟩) rfl (.tmp 78) (.tmp 79) rfl vb3 st3.buf _ 61 rfl HV3.out.symm rfl HE3.out.obuf (by omega) ?_; intro v5 w5 ho5 hs5; obtain ⟨va5, n5, vc5, rfl, hn5, _, _⟩ := own_shape2 ho5; have HN5 := Lib.hid hn5; clear hn5; have HR9 := Lib.hid (HE3.out.row.fr hs5.1 (fun hm => HE3.out.row.ne HE3.out.obuf (by simpa using hm))); have d9 := HR9.out.all.1.1; have g9 := HR9.out.free 0))
    obtain ⟨w4, hw4⟩ : ∃ x, x = w5.setCell ⟨b, 0, none⟩ (.slice va5 n5 vc5) := ⟨_, rfl⟩
    rw [← hw4]
    obtain ⟨st4, hst4⟩ : ∃ x : St, x = { st3 with buf := st3.buf ++ [61] } := ⟨_, rfl⟩
    obtain ⟨vb4, hvb4⟩ : ∃ x, x = Value.slice va5 n5 vc5 := ⟨_, rfl⟩
    have hE4 : EncC B ea w4 b st4 vb4 vk ve pi := by
      rw [hw4, hst4, hvb4]; exact HE3.out.app HGG3.out.big ho5 hs5 ((Fr.refl [b] w5).setCell (.inl (by simp)) _) (HR9.out.set 0 _)
    have hF4 : FrQ b w w4 vb vb4 := by
      rw [hw4, hvb4]; exact (HF3.out.trans (FrQ.stp hs5)).trans (FrQ.self ((Fr.refl [b] w5).setCell (.inl (by simp)) _))
    have HGG4 := Lib.hid (HG.out.frE (hF4.toE hbB HE0.out.obuf HE0.out.lowb))
    have hl4 : st4.buf.length ≤ 102000002 := by rw [hst4]; simp only [List.length_append, List.length_singleton]; omega
    have HE4 := Lib.hid hE4
    have HF4 := Lib.hid hF4
    have HST4 := Lib.hid hst4
    clear c0 c1 c2 c3 c4 c5 c6 c7 c8 f0 f1 f2 f3 f4 f5 f6 f7 f8 d9 g9 HR9 ho5 hs5 hw4 hE4 hF4 hst4 hvb4 hx3 hy3 HN5
    obtain ⟨⟨c0, c1, c2, c3, c4, c5, c6, c7, c8⟩, f0, f1, f2, f3, f4, f5, f6, f7, f8⟩ := HE4.out.row.all
    have hbox := HF4.out.blk HBOX.out HB0.out.1 HB0.out.2
    have cb0 : w4.cell? ⟨w0.heap.size, 0, none⟩ = some (.int .u64 n) := cell_of_row w4 _ 0 _ 69 _ hbox
    have cb1 : w4.cell? ⟨w0.heap.size, 1, none⟩ = some (.slice ta tc td) := cell_of_row w4 _ 1 _ 69 _ hbox
    have cb2 : w4.cell? ⟨w0.heap.size, 2, none⟩ = some (.int .u8 tk) := cell_of_row w4 _ 2 _ 69 _ hbox
    clear hbox
    have HLV4 : Hid (LV w4.drew (.agg #[.int .u64 n, .slice ta tc td, .int .u8 tk]) x) := Lib.hid (LV.frQ (HF4.out.trans (FrQ.of (Fr.refl [] w4).drew)) HLV.out HNB.out HNE.out)
    have HE5 := Lib.hid (HE4.out.drew)
    have HG5 := Lib.hid (HGG4.out.frE (FrE.of (b := b) ((Fr.refl [] w4).drew)))
    have HN5 : Hid (∀ g, lvBlock (.agg #[.int .u64 n, .slice ta tc td, .int .u8 tk]) = some g → vb4.ownBlock ≠ some g) := Lib.hid (fun g hg => by
      rcases HF4.out.2 with e | ⟨g', e, e'⟩
      · rw [e]; exact HNE.out g hg
      · rw [e]; intro e2; cases e2
        have hlt : g < w.heap.size := by
          have hLV := HLV.out
          cases x with
          | str s => obtain ⟨t, ht, ho⟩ := hLV; cases ht; exact ho.lt g (by simpa [lvBlock] using hg)
          | int _ => cases hLV.1; simp [lvBlock, Value.ownBlock] at hg
          | uint _ => cases hLV.1; simp [lvBlock, Value.ownBlock] at hg
          | flt _ => cases hLV; simp [lvBlock, Value.ownBlock] at hg
          | bool _ => cases hLV; simp [lvBlock, Value.ownBlock] at hg
        omega)
    have HX := Lib.hid hx; clear hx
    have HXS := Lib.hid hxs; clear hxs
    have HVS := Lib.hid hV; clear hV
    go_region_with (first
        | (go_at_call 38; refine (appBytes_any hF _ x HX.out HXS.out _ st4.buf _ HG5.out.toGv HLV4.out HE5.out.obuf (by omega) HE5.out.lowb HN5.out).mono ?_; rintro e x2 ⟨vb', rfl, ho2, hs2⟩; obtain ⟨va', n', vc', rfl, hn', _, _⟩ := own_shape2 ho2; have HN' := Lib.hid hn'; clear hn'; have HRW := Lib.hid (HE5.out.row.fr hs2.1 (fun hm => HE5.out.row.ne HE5.out.obuf (by simpa using hm))); have d1 := HRW.out.all.1.1; have g1 := HRW.out.free 0))
    all_goals
      go_end0
      have hE5 := HE5.out
      rw [HR3.out, show ({ st1 with buf := st1.buf ++ ([if sec = 1 then 32 else 44] ++ esc (tOf sK) k.data.toList ++ [61] ++ valText F x) } : St) = { st4 with buf := st4.buf ++ valText F x } from by rw [HST4.out, HST3.out, HST2.out]; simp]
      exact ⟨rfl, ⟨_, _, _, _, hE5.app HG5.out.big ho2 hs2 ((Fr.refl [b] x2).setCell (.inl (by simp)) _) (HRW.out.set 0 _)⟩, (FrE.of HF00.out).trans ((((HF4.out.trans (FrQ.of (Fr.refl [] w4).drew)).trans (FrQ.stp hs2)).trans (FrQ.self ((Fr.refl [b] x2).setCell (.inl (by simp)) _))).toE hbB HE0.out.obuf HE0.out.lowb)⟩
end Go.Proofs.YtaaogjhaokaggaaGreatDoor
