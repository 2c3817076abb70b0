/- PROVED HERE: a part of round r2's proofs (text StrW): lemmas and walks that later texts use. CONDITIONS: those written ahead of each theorem. -/
import Derived.Test.YtpkkgngpjeoffaaGreatDoorLpS
namespace Go.Proofs.YtpkkgngpjeoffaaGreatDoor
open Go.RowKit

def StQ (A : World) (b : Nat) (sz : List Int) (l bl : List UInt8) (e : Ending) (w' : World) : Prop :=
  e = .returned .nilIface ∧ Fr [] A w' ∧ ∃ cs bv', Run sz 0 l cs ∧ BufW w' b bv' (bl ++ [36, 63, 13, 10] ++ (cs.map chunkE).flatten ++ chunkE [])
set_option maxRecDepth 100000 in
set_option maxHeartbeats 4000000 in
theorem stream_any {ea : Addr} (A : World) (o bp b r : Nat) (sv : Value) (sz : List Int) (S : ByteArray) (pv : Value) (po : Option (Nat × Value)) (bv : Value) (bl l : List UInt8) (w : World)
    (hF : Fr [] A w) (hG : Gv A.heap.size ea A) (hM : Mach w o bp b pv po bv bl) (hmb : ∀ s, s ∈ mblk bp b pv po bv → A.heap.size ≤ s) (hr : w.heap[r]? = some (.cells #[.string S, sv, .int .i64 0, .bool false] 82 (0, 0))) (hbr : A.heap.size ≤ r)
    (hsz : SzS w A.heap.size sv sz) (hnil : sz = [] → sv = .slice none 0 0) (hpo : sz = [] ∨ anyPos sz = true) (hsl : sz.length ≤ 1000) (hS : S.data.toList = l) (hlen : l.length ≤ 10000) (hbl : bl.length ≤ 1000) :
    Calls Tryz.prog 15 #[.agg #[.iface 49 (.pointer (some ⟨r, 0, none⟩))], .iface 56 (.pointer (some ⟨b, 0, none⟩)), .pointer (some ⟨o, 0, none⟩)] w (StQ A b sz l bl) := by
  obtain ⟨w1, hw1⟩ : ∃ x, x = w.alloc (.cells #[.iface 49 (.pointer (some ⟨r, 0, none⟩))] 54) := ⟨_, rfl⟩
  have hf1 : Fr [] w w1 := by rw [hw1]; exact (Fr.refl [] w).alloc _
  have hx1 : w1.heap[w.heap.size]? = some (.cells #[.iface 49 (.pointer (some ⟨r, 0, none⟩))] 54 (0, 0)) := by rw [hw1]; exact heap_alloc_new _ _
  have HM1 := Lib.hid (hM.fr hf1 List.not_mem_nil (fun _ _ => List.not_mem_nil))
  have HF1 := Lib.hid (hF.trans hf1)
  have HR1 := Lib.hid (hf1.blk hr List.not_mem_nil)
  have HSZ1 := Lib.hid (hsz.fr hf1 (fun _ h => by cases h))
  have HX1 := Lib.hid hx1
  have HW1 := Lib.hid hw1
  have HMB := Lib.hid hmb
  have HG := Lib.hid hG
  have HNIL := Lib.hid hnil
  have HPO := Lib.hid hpo
  have HSS := Lib.hid hS
  have HXS := Lib.hid (show A.heap.size ≤ w.heap.size from hF.size)
  clear hF hf1 hx1 hw1 hM hmb hr hsz hG hnil hpo hS
  have hme : ∀ W : World, (method 487 49 (.pointer (some ⟨r, 0, none⟩)) "Read").run Tryz.prog W = .ok (200, .pointer (some ⟨r, 0, none⟩)) W := fun _ => by kernel_rfl
  go_enter_defers Tryz.func15, Tryz.ntmps15
  go_upto_region 4 with (go_at_call 33; rw [← HW1.out]; refine (hdr_any o bp b pv po bv bl w1 HM1.out (by omega)).mono ?_; rintro e w2 ⟨rfl, hq2⟩; have HQ2 := Lib.hid hq2; clear hq2)
  obtain ⟨hf2, pv2, po2, bv2, hM2, hm2⟩ := HQ2.out
  have hmb2 : ∀ s, s ∈ mblk bp b pv2 po2 bv2 → A.heap.size ≤ s := fun s hs => by
    rcases hm2 s hs with k | k
    · exact HMB.out s k
    · exact Nat.le_trans HF1.out.size k
  have hF2 : Fr [] A w2 := HF1.out.step hf2 (fun t ht => .inr (HMB.out t ht))
  have hntag : ∀ {k : Nat} {c : Array Value} {t : TypeId} {x : Nat × Nat}, w1.heap[k]? = some (.cells c t x) → t ≠ 94 → t ≠ 174 → t ≠ 46 → t ≠ 87 → t ≠ 5 → t ≠ 42 → k ∉ mblk bp b pv po bv := by
    intro k c t x hk a1 a2 a3 a4 a5 a6 hm
    obtain ⟨c', t', x', h1, h2⟩ := HM1.out.tag k (List.mem_cons_of_mem _ hm)
    exact ne_tag hk h1 (by rcases h2 with rfl | rfl | rfl | rfl | rfl | rfl <;> assumption) rfl
  have hr2 := hf2.blk HR1.out (hntag HR1.out (by decide) (by decide) (by decide) (by decide) (by decide) (by decide))
  have hx2 := hf2.blk HX1.out (hntag HX1.out (by decide) (by decide) (by decide) (by decide) (by decide) (by decide))
  have hsz2 := HSZ1.out.fr hf2 HMB.out
  have HM2 := Lib.hid hM2
  have HMB2 := Lib.hid hmb2
  have HF2 := Lib.hid hF2
  have HR2 := Lib.hid hr2
  have HX2 := Lib.hid hx2
  have HSZ2 := Lib.hid hsz2
  obtain ⟨⟨c2, c3, c4, hOp⟩, hPl, hBf, hAp⟩ := hM2
  have o0 := cell_of_row w2 o 0 _ 94 _ hOp
  have HOP := Lib.hid hOp
  have hGet : Calls Tryz.prog 39 #[.pointer (some ⟨bp, 0, none⟩)] w2 (GetQ w2 bp pv2 po2) := get_any bp pv2 po2 w2 hPl
  have hobp : o ≠ bp := by
    obtain ⟨⟨u, hu⟩, _⟩ := hPl
    exact ne_tag hOp hu (by decide)
  have HGET := Lib.hid hGet
  clear hf2 hm2 hmb2 hF2 hntag hr2 hx2 hsz2 hPl hBf hAp hOp hGet
  go_upto_region 5 with (go_at_call 39; refine HGET.out.mono ?_; rintro e w3 ⟨hf3, q, v, pv3, rfl, hq3, hv3, hp3, hpb3, hm3⟩; have HF3 := Lib.hid hf3; have HQ3 := Lib.hid hq3; have HV3 := Lib.hid hv3; have HP3 := Lib.hid hp3; have HM3 := Lib.hid hm3; have HPB3 := Lib.hid hpb3; clear hf3 hq3 hv3 hp3 hm3 hpb3)
  clear o0
  have o1 := cell_of_row w3 o 1 _ 94 _ (HF3.out.blk HOP.out (by simp; exact hobp))
  have q0 := cell_of_row w3 q 0 _ 42 _ HQ3.out
  go_wp2_with (go_at_call 34; refine (expand34_any v [] w3 HV3.out).mono ?_; rintro e w4 ⟨g, cap, rfl, hf4, ho4, hc4, hg4⟩; have HF4 := Lib.hid hf4; have HO4 := Lib.hid ho4; have HG4 := Lib.hid hg4; have r4 := hf4.blk HQ3.out List.not_mem_nil; have k4 := cell_of_row w4 q 0 _ 42 _ r4; have f4 := frozen_of_row w4 q 0 _ 42 r4; clear hf4 ho4 hg4 r4)
  obtain ⟨w5, hw5⟩ : ∃ x, x = w4.setCell ⟨q, 0, none⟩ (.slice (some ⟨g, 0, none⟩) 1024 cap) := ⟨_, rfl⟩
  rw [← hw5]
  have hL5 : Lp A w5 ea o bp b r q g cap sv sz S 0 pv3 none bv2 (bl ++ [36, 63, 13, 10]) := by
    rw [hw5]
    exact lp_init HF2.out HG.out HM2.out HMB2.out HR2.out hbr HSZ2.out HF3.out HQ3.out HP3.out HPB3.out HM3.out HF4.out HO4.out hc4 HG4.out
  have hx5 : w5.heap[w.heap.size]? = some (.cells #[.iface 49 (.pointer (some ⟨r, 0, none⟩))] 54 (0, 0)) := by
    have a3 := HF3.out.blk HX2.out (by
      obtain ⟨u, hu⟩ := HM2.out.pool.1
      simp; exact ne_tag HX2.out hu (by decide))
    have a4 := HF4.out.blk a3 List.not_mem_nil
    rw [hw5]
    exact ((Fr.refl [q] w4).setCell (.inl (by simp)) _).blk a4 (by simp; exact ne_tag a4 (HF4.out.blk HQ3.out List.not_mem_nil) (by decide))
  have HL5 := Lib.hid hL5
  have HX5 := Lib.hid hx5
  clear hw5 hL5 hx5 k4 f4 q0 o1 HF4 HO4 HG4 HF3 HQ3 HV3 HP3 HM3 HPB3 HGET HX2 HSZ2 HR2 HF2 HMB2 HM2 HQ2
  have HPOO := HPO
  obtain ⟨K, hK1, hK2, hK3⟩ : ∃ K : Nat, (bl ++ [36, 63, 13, 10]).length + 40 * l.length ≤ K ∧ 0 + mRd sz 0 l.length ≤ K ∧ K ≤ 20000000 := by
    have h1 := far_le sz sz.length 0
    have h2 : l.length * (sz.length + 1) ≤ 10000 * 1001 := Nat.mul_le_mul hlen (by omega)
    refine ⟨20000000, ?_, ?_, Nat.le_refl _⟩
    · simp; omega
    · unfold mRd; omega
  obtain ⟨x, hx⟩ : ∃ x, x = w.heap.size := ⟨_, rfl⟩
  rw [← hx] at HX5 ⊢
  clear hx
  go_loopw [9] (fun _ wr => Hid (LpR A wr ea o bp b r q g cap sv sz l (bl ++ [36, 63, 13, 10]) K ∧ wr.heap[x]? = some (.cells #[.iface 49 (.pointer (some ⟨r, 0, none⟩))] 54 (0, 0)))) (fun _ wr => mRow sz r wr)
  case atStart => exact Lib.hid ⟨⟨S, 0, pv3, none, bv2, bl ++ [36, 63, 13, 10], l, [], HL5.out, HSS.out, by simp, fun cs h => h, hK1, hK2, by omega⟩, HX5.out⟩
  case round =>
    obtain ⟨S', a, pv', po', bv', bl', rest, dn, hL, hS, hbl', hrun, hk1, hk2, hk3⟩ := hrel.out.1
    have hx6 := hrel.out.2
    have HX6 := Lib.hid hx6
    have hmr : mRow sz r wr = mRd sz a rest.length := by rw [mRow_eq hL.rd, Lib.size_eq, hS]
    have HMR := Lib.hid hmr
    have HL := Lib.hid hL
    have HLd := Lib.hid (hL.fr0 (Fr.refl [] wr).drew)
    have HSr := Lib.hid hS
    have HBL := Lib.hid hbl'
    have HRUN := Lib.hid hrun
    have q0 := cell_of_row wr q 0 _ 42 _ hL.rq
    have x0 := cell_of_row wr x 0 _ 54 _ hx6
    clear hrel hx6 hmr hL hS hbl' hrun
    by_cases hne : rest = []
    · have hrd := HLd.out.rd
      have HEOF := Lib.hid (read_eof (B := A.heap.size) (ea := ea) r S' sv (.slice (some ⟨g, 0, none⟩) 1024 cap) a wr.drew HLd.out.gvw hrd (by rw [HSr.out]; exact hne))
      have HNE := Lib.hid hne
      clear hrd hne
      go_upto_region 7 with fail
      go_cut [9, 10] from 34 to 68 (fun x9 x10 wx => x10 = .iface 199 (.pointer (some ea)) ∧ Hid (Fr [] wr wx))
      case first =>
        refine wp_region_noPanic ?_
        go_region_law (go_simp; go_at_call 200; refine HEOF.out.mono ?_; rintro e w15 ⟨rfl, hwr⟩; have HWQ := Lib.hid ((Fr.refl [] wr).drew.trans hwr); clear hwr)
        all_goals
          refine NoPanic.normal ?_
          go_wp2_with fail
          go_meet
          exact ⟨rfl, HWQ⟩
      obtain ⟨rfl, HF6⟩ := hcut
      obtain ⟨w6, hw6⟩ : ∃ x, x = wc := ⟨_, rfl⟩
      subst hw6
      have HL6 := Lib.hid (HL.out.fr0 HF6.out)
      have e0 := HL6.out.gvw.err
      have HCH := Lib.hid (chunk_any (B := A.heap.size) (ea := ea) o bp b pv' po' bv' (.slice none 0 0) bl' [] w6 HL6.out.gvw HL6.out.mach HL6.out.mb (.inl ⟨rfl, rfl⟩) (fun g hg => by simp [Value.ownBlock] at hg) (by simp; omega))
      clear q0 x0
      go_wp2_with (first
        | (go_at_call 35; refine (zzis_eof w6 HL6.out.gvw).mono ?_; rintro e w7 ⟨rfl, rfl⟩)
        | (go_at_call 36; refine HCH.out.mono ?_; rintro e w8 ⟨rfl, hq8⟩; have HQ8 := Lib.hid hq8; clear hq8))
      obtain ⟨pv8, po8, bv8, hL8⟩ := HL6.out.wrote HQ8.out
      obtain ⟨u8, n8, cs8, hb8, hO8, hn8, hqb8, hpb8, hpq8⟩ := hL8.put_pre
      refine leaves_cons (f := 40) (args := #[.pointer (some ⟨bp, 0, none⟩), .pointer (some ⟨q, 0, none⟩)]) (by simp) (by simp [go_sem]) ?_
      refine (put_anyD .returning bp q g 1024 cap u8 pv8 n8 cs8 w8 hb8 hO8 hn8 hL8.rq hL8.hcap hqb8 hpb8 hpq8).mono ?_
      rintro e u' w9 ⟨rfl, rfl, hpq⟩
      obtain ⟨hf9, hb9⟩ := hL8.put_post hO8 hpq
      have HF9 := Lib.hid hf9
      have HB9 := Lib.hid hb9
      clear hf9 hb9 hpq
      simp [Leaves, settle, results, Tryz.results15, go_sem]
      refine ⟨rfl, HF9.out, dn, bv8, ?_, ?_⟩
      · have := HRUN.out [] (by rw [HNE.out]; exact .done a)
        simpa using this
      · have hh := HB9.out
        rw [HBL.out] at hh
        exact hh
    · have HRD := Lib.hid (HLd.out.calls_read HNIL.out hsl (by omega) HSr.out hne hk3)
      have HNE := Lib.hid hne
      obtain ⟨c, hc⟩ : ∃ c, c = rest.take (stepN sz a) := ⟨_, rfl⟩
      obtain ⟨n, hn⟩ : ∃ n, n = c.length := ⟨_, rfl⟩
      have hn1 : n ≤ rest.length := by rw [hn, hc, List.length_take]; omega
      have hn2 : n ≤ cap := by
        have := HL.out.hcap
        have h2 : stepN sz a ≤ 1024 := by unfold stepN; split <;> omega
        rw [hn, hc, List.length_take]; omega
      have hn3 : n ≤ 1024 := by
        have h2 : stepN sz a ≤ 1024 := by unfold stepN; split <;> omega
        rw [hn, hc, List.length_take]; omega
      have HC := Lib.hid hc
      have HN := Lib.hid hn
      clear hne hc hn
      go_upto_region 7 with fail
      go_cut [9, 10] from 34 to 68 (fun x9 x10 wx => x9 = .int .i64 n ∧ x10 = .nilIface ∧ Hid (∃ S2 : ByteArray, S2.data.toList = rest.drop (stepN sz a) ∧ Lp A wx ea o bp b r q g cap sv sz S2 (nextA sz a) pv' po' bv' bl' ∧ Own wx 5 (.slice (some ⟨g, 0, none⟩) n cap) c ∧ wx.heap[x]? = some (.cells #[.iface 49 (.pointer (some ⟨r, 0, none⟩))] 54 (0, 0))))
      case first =>
        refine wp_region_noPanic ?_
        go_region_law (go_simp; go_at_call 200; refine HRD.out.mono ?_; intro e w15 hrq; have hx15 := HLd.out.keep_read hrq ((Fr.refl [] wr).drew.blk HX6.out List.not_mem_nil) (by decide) (by decide); obtain ⟨S2, rfl, hS2, hL2, ho2⟩ := HLd.out.read hrq; rw [← HC.out, ← HN.out] at ho2 ⊢; have HWQ := Lib.hid (show ∃ S2 : ByteArray, S2.data.toList = rest.drop (stepN sz a) ∧ Lp A w15 ea o bp b r q g cap sv sz S2 (nextA sz a) pv' po' bv' bl' ∧ Own w15 5 (.slice (some ⟨g, 0, none⟩) n cap) c ∧ w15.heap[x]? = some (.cells #[.iface 49 (.pointer (some ⟨r, 0, none⟩))] 54 (0, 0)) from ⟨S2, hS2, hL2, ho2, hx15⟩); clear hrq hx15 hS2 hL2 ho2)
        all_goals
          refine NoPanic.normal ?_
          go_wp2_with fail
          go_meet
          exact ⟨rfl, rfl, HWQ⟩
      obtain ⟨rfl, rfl, HW6⟩ := hcut
      obtain ⟨w6, hw6⟩ : ∃ x, x = wc := ⟨_, rfl⟩
      subst hw6
      obtain ⟨S2, hS2, hL6, ho6, hx6⟩ := HW6.out
      have HS2 := Lib.hid hS2
      have HL6 := Lib.hid hL6
      have HO6 := Lib.hid ho6
      have HX6' := Lib.hid hx6
      clear q0 x0
      have e0 := hL6.gvw.err
      have q0 := cell_of_row w6 q 0 _ 42 _ hL6.rq
      have HZN := Lib.hid (fun v => zzis_nil v w6)
      clear hS2 hL6 ho6 hx6
      by_cases hn0 : n = 0
      · have hcn : c = [] := List.eq_nil_of_length_eq_zero (by rw [← HN.out]; exact hn0)
        have HCN := Lib.hid hcn
        clear hcn
        subst hn0
        go_wp2_with (go_at_call 35; refine (HZN.out _).mono ?_; rintro e w7 ⟨rfl, rfl⟩)
        obtain ⟨hl, hm⟩ := lpr_skip HNE.out HPO.out HBL.out HRUN.out hk1 hk2 hk3 HS2.out HL6.out (by rw [← HC.out, if_pos HCN.out, List.append_nil])
        rw [← HMR.out] at hm
        have HRR := Lib.hid (And.intro hl HX6'.out)
        have HMM := Lib.hid hm
        clear hl hm
        go_roundw
        case rel => exact HRR
        case measure => exact HMM.out
      · have hcn : c ≠ [] := fun e => hn0 (by rw [HN.out, e]; rfl)
        have HCN := Lib.hid hcn
        have HCH := Lib.hid (chunk_any (B := A.heap.size) (ea := ea) o bp b pv' po' bv' (.slice (some ⟨g, 0, none⟩) n cap) bl' c w6 HL6.out.gvw HL6.out.mach HL6.out.mb HO6.out (fun k hk => by simp [Value.ownBlock] at hk; subst hk; exact HL6.out.ng) (by rw [← HN.out]; omega))
        clear hcn
        go_wp2_with (first
          | (go_at_call 35; refine (HZN.out _).mono ?_; rintro e w7 ⟨rfl, rfl⟩)
          | (go_at_call 36; refine HCH.out.mono ?_; rintro e w8 ⟨rfl, hq8⟩; have HQ8 := Lib.hid hq8; clear hq8))
        obtain ⟨pv8, po8, bv8, hL8⟩ := HL6.out.wrote HQ8.out
        have hx8 := HL6.out.keep_wrote HQ8.out HX6'.out (by decide) (by decide) (by decide) (by decide) (by decide) (by decide)
        obtain ⟨hl, hm⟩ := lpr_skip HNE.out HPO.out HBL.out HRUN.out hk1 hk2 hk3 HS2.out hL8 (by rw [← HC.out]; simp [chunkE, HCN.out])
        rw [← HMR.out] at hm
        have HRR := Lib.hid (And.intro hl hx8)
        have HMM := Lib.hid hm
        clear hl hm hL8 hx8
        go_roundw
        case rel => exact HRR
        case measure => exact HMM.out
end Go.Proofs.YtpkkgngpjeoffaaGreatDoor
