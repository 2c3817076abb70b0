import Derived.Test.YtaaogjhaokaggaaGreatDoorBufW
import Derived.Test.YtaaogjhaokaggaaGreatDoorGoodR
import Derived.Deep.RegionLaw
namespace Go.Proofs.YtaaogjhaokaggaaGreatDoor
open Go.RowKit

theorem box7 {w : World} {b : Nat} {x0 x1 x2 x3 x4 x5 x6 : Value} (h : w.heap[b]? = some (.cells #[x0, x1, x2, x3, x4, x5, x6] 43 (0, 0))) :
    w.cell? ⟨b, 0, none⟩ = some x0 ∧ w.cell? ⟨b, 1, none⟩ = some x1 ∧ w.cell? ⟨b, 2, none⟩ = some x2 ∧ w.cell? ⟨b, 3, none⟩ = some x3 ∧ w.cell? ⟨b, 4, none⟩ = some x4 ∧ w.cell? ⟨b, 5, none⟩ = some x5 ∧ w.cell? ⟨b, 6, none⟩ = some x6 :=
  ⟨cell_of_row w b 0 _ 43 _ h, cell_of_row w b 1 _ 43 _ h, cell_of_row w b 2 _ 43 _ h, cell_of_row w b 3 _ 43 _ h, cell_of_row w b 4 _ 43 _ h, cell_of_row w b 5 _ 43 _ h, cell_of_row w b 6 _ 43 _ h⟩
set_option maxRecDepth 100000 in
set_option maxHeartbeats 4000000 in
theorem lax_early (l : List LnD) (v : Value) (w : World) (hlen : l.length ≤ 9223372036854775807) (hok : ∀ e, e ∈ l → LnOk e) (hP : LinesIn w v l) (hf : fitLs l = false) :
    Calls Tryz.prog 8 #[v] w fun e w' => e = .returned (.bool true) ∧ Fr [] w w' := by
  have hz := zzFits4_any l v w hlen hok hP
  rw [hf] at hz
  have HZ := Lib.hid hz
  clear hz hP hok hf
  go_enter Tryz.func8, Tryz.ntmps8
  go_wp2_with (go_at_call 20; refine HZ.out.mono ?_; rintro e w1 ⟨rfl, hf1⟩)
  go_ret
  exact ⟨rfl, hf1⟩
set_option maxRecDepth 100000 in
set_option maxHeartbeats 8000000 in
theorem lax_main (hV : ValidSaid) {ea : Addr} {B0 : Nat} (l : List LnD) (v : Value) (w : World) (hG : Gl B0 ea w) (hok : ∀ e, e ∈ l → LnOk e) (hP : LinesIn w v l) (hf : fitLs l = true) :
    Calls Tryz.prog 8 #[v] w fun e w' => e = .returned (.bool true) ∧ Fr [] w w' := by
  have hlen := fits_len hf
  have hz := zzFits4_any l v w (by omega) hok hP
  rw [hf] at hz
  have hl := fun w1 (h : Fr [] w w1) => lAllGood_any l v w1 hlen hf (hP.fr h)
  have HZ := Lib.hid hz
  have HL := Lib.hid hl
  have HOK := Lib.hid hok
  have HG := Lib.hid hG
  obtain ⟨a, c, rfl, hrow⟩ := hP
  have HROW := Lib.hid hrow
  obtain ⟨L, hL⟩ : ∃ L, L = l.length := ⟨_, rfl⟩
  rw [← hL] at hlen HZ HL ⊢
  have HLL := Lib.hid hL
  clear hz hok hf hl hrow hG hL
  go_enter Tryz.func8, Tryz.ntmps8
  go_upto_region 3 with (go_at_call 20; refine HZ.out.mono ?_; rintro e w1 ⟨rfl, hf1⟩; have HF1 := Lib.hid hf1; clear hf1)
  go_upto_region 5 with (go_at_call 24; refine (HL.out _ HF1.out).mono ?_; rintro e w2 ⟨⟨b, rfl, hb⟩, hf2⟩; have HF2 := Lib.hid (HF1.out.trans hf2); have HB := Lib.hid hb; clear hf2 hb; cases b)
  · go_ret
    exact ⟨rfl, HF2.out⟩
  have HLO := Lib.hid (HB.out trivial).1
  have HKEY := Lib.hid (HB.out trivial).2
  clear HB
  go_upto_region 6 with fail
  have hP3 : Pool w2 ((w2.alloc (.cells (laxP false).cells 38)).alloc (.cells (laxP true).cells 38)) (.slice (some ⟨w2.heap.size, 0, none⟩) 1 1) (.slice (some ⟨w2.heap.size + 1, 0, none⟩) 1 1) (laxP false :: lnAll (l.take 0)) (laxP true :: lnAll (l.take 0)) := by
    have e0 : ∀ b, laxP b :: lnAll (l.take 0) = [laxP b] := fun b => by simp [lnAll]
    rw [e0, e0]
    have hf1 : Fr [] (w2.alloc (.cells (laxP false).cells 38)) ((w2.alloc (.cells (laxP false).cells 38)).alloc (.cells (laxP true).cells 38)) := (Fr.refl _ _).alloc _
    have h2 := own_one (w2.alloc (.cells (laxP false).cells 38)) (laxP true)
    have e1 : (w2.alloc (.cells (laxP false).cells 38)).heap.size = w2.heap.size + 1 := by simp
    rw [e1] at h2
    exact ⟨(own_one w2 (laxP false)).fr hf1 (by simp), h2, ((Fr.refl _ _).alloc _).alloc _, fun g hg => by simp [Value.ownBlock] at hg; omega, fun g hg => by simp [Value.ownBlock] at hg; omega, fun g hg h2 => by simp [Value.ownBlock] at hg h2; omega⟩
  have HP3 := Lib.hid hP3
  clear hP3
  go_wp2_with fail
  go_loopw [3, 4, 25] (fun vs vl i wr => ∃ k : Nat, k ≤ L ∧ i = .int .i64 k ∧ Hid (Pool w2 wr vs vl (laxP false :: lnAll (l.take k)) (laxP true :: lnAll (l.take k)))) (fun _ _ i _ => L - (intOf i).toNat)
  case atStart => exact ⟨0, Nat.zero_le _, rfl, HP3⟩
  case round =>
    obtain ⟨k, hk, rfl, HP0⟩ := hrel
    by_cases hlt : k < L
    case pos =>
      have hlk : k < l.length := by rw [← HLL.out]; exact hlt
      obtain ⟨x, hx⟩ : ∃ x, l[k]? = some x := ⟨l[k], List.getElem?_eq_getElem hlk⟩
      have hmem := List.mem_of_getElem? hx
      obtain ⟨g, off, rfl, cs, hline, hcell⟩ := lines_at HROW.out hx HF2.out
      have hpt := lines_pt HLO.out hmem
      have hgd := HLO.out.good x hmem
      have hcal : ∀ w', Fr [] w2 w' → Calls Tryz.prog 22 #[.agg cs] w' fun ε w2 => ∃ v, ε = .returned v ∧ OutC w' w2 v (lnPuts x) := fun w' hf => lCalls_any x cs w' (by unfold lnPt at hpt; omega) (by unfold lnPt at hpt; omega) hgd.vals (hline.fr hf)
      have HX := Lib.hid hx
      have HCAL := Lib.hid hcal
      have hle : ∀ b, (laxP b :: lnAll (l.take k)).length + (lnPuts x).length ≤ 1000000000 := fun b => by
        have h1 := lnPuts_len x hgd
        have h2 := lnAll_le HLO.out k
        rw [List.length_cons]
        omega
      have HLE := Lib.hid hle
      have hcell2 : ∀ j u, cs[j]? = some u → wr.cell? ⟨g, off + k * 7 + j, none⟩ = some u := fun j u hu => HP0.out.fr.cell (hcell j u hu) (by simp)
      obtain ⟨tv, fv, vv, rfl, ⟨ta, tc, rfl, _⟩, ⟨fa, fc, rfl, _⟩, ⟨va, vc, rfl, _⟩⟩ := hline
      have c0 : wr.cell? ⟨g, off + k * 7, none⟩ = some (.string x.name) := hcell2 0 _ rfl
      have c1 : wr.cell? ⟨g, off + k * 7 + 1, none⟩ = some (.slice ta x.tags.length tc) := hcell2 1 _ rfl
      have c2 : wr.cell? ⟨g, off + k * 7 + 2, none⟩ = some (.slice fa x.fields.length fc) := hcell2 2 _ rfl
      have c3 : wr.cell? ⟨g, off + k * 7 + 3, none⟩ = some (.slice va x.values.length vc) := hcell2 3 _ rfl
      have c4 : wr.cell? ⟨g, off + k * 7 + 4, none⟩ = some (.int .i64 x.n) := hcell2 4 _ rfl
      have c5 : wr.cell? ⟨g, off + k * 7 + 5, none⟩ = some (.bool x.non) := hcell2 5 _ rfl
      have c6 : wr.cell? ⟨g, off + k * 7 + 6, none⟩ = some (.bool x.raw) := hcell2 6 _ rfl
      clear hcell hcell2 hx hmem hpt hgd hcal hlk hle
      go_upto_region 9 with fail
      obtain ⟨wb, hwb⟩ : ∃ z, z = wr.alloc (.cells #[.string x.name, .slice ta x.tags.length tc, .slice fa x.fields.length fc, .slice va x.values.length vc, .int .i64 x.n, .bool x.non, .bool x.raw] 43) := ⟨_, rfl⟩
      rw [← hwb]
      have hfb : Fr [] wr wb := by rw [hwb]; exact (Fr.refl _ _).alloc _
      have HBX : Hid (wb.drew.heap[wr.heap.size]? = some (.cells #[.string x.name, .slice ta x.tags.length tc, .slice fa x.fields.length fc, .slice va x.values.length vc, .int .i64 x.n, .bool x.non, .bool x.raw] 43 (0, 0))) := Lib.hid (by rw [hwb]; exact heap_alloc_new _ _)
      have HP := Lib.hid (HP0.out.fr0 hfb.drew)
      have HN1 : Hid (∀ g, u3.ownBlock = some g → g ≠ wr.heap.size) := Lib.hid (fun g hg => by have := HP0.out.own1.lt g hg; omega)
      have HN2 : Hid (∀ g, u4.ownBlock = some g → g ≠ wr.heap.size) := Lib.hid (fun g hg => by have := HP0.out.own2.lt g hg; omega)
      obtain ⟨d0, d1, d2, d3, d4, d5, d6⟩ := box7 HBX.out
      clear hwb hfb c0 c1 c2 c3 c4 c5 c6
      have T1 : Hid True := Lib.hid trivial
      refine wp_region_noPanic ?_
      go_region_law (first
        | (go_simp; go_at_call 22; have hT := T1; clear T1 hT; refine (HCAL.out _ HP.out.fr).mono ?_; rintro ε w7 ⟨v7, rfl, ho7⟩; have hpk := HP.out.keep (Fr.refl _ _) ho7; have hbx := ho7.fr.blk HBX.out (by simp); clear HP HBX d0 d1 d2 d3 d4 d5 d6; have HP := Lib.hid hpk.1; have HK := Lib.hid hpk.2; have HBX := Lib.hid hbx; obtain ⟨d0, d1, d2, d3, d4, d5, d6⟩ := box7 hbx; clear hpk hbx ho7)
        | (go_simp; go_at_call 22; refine (HCAL.out _ HP.out.fr).mono ?_; rintro ε w9 ⟨v9, rfl, ho9⟩; have hpk := HP.out.keep (Fr.refl _ _) ho9; have hbx := ho9.fr.blk HBX.out (by simp); (try (have HKn := Lib.hid (HK.out.fr0 ho9.fr); clear HK; have HK := HKn; clear HKn)); clear HP HBX d0 d1 d2 d3 d4 d5 d6; have HP := Lib.hid hpk.1; have HK9 := Lib.hid hpk.2; have HBX := Lib.hid hbx; obtain ⟨d0, d1, d2, d3, d4, d5, d6⟩ := box7 hbx; clear hpk hbx ho9)
        | (refine stepAppP _ (by rfl) _ _ (by rfl) _ _ _ _ (by rfl) (by rfl) HP.out.own1 HK.out.own (HLE.out false) ?_; intro v8 w8 ho8 hf8 hb8; have hp := HP.out.app1 ho8 hf8 hb8; have hbx := hf8.blk HBX.out (fun hm => HN1.out _ (by simpa using hm) rfl); (try (have HK9n := Lib.hid (HK9.out.app1 hf8 hb8); clear HK9; have HK9 := HK9n; clear HK9n)); clear HP HBX HK d0 d1 d2 d3 d4 d5 d6; have HP := Lib.hid hp; have HBX := Lib.hid hbx; obtain ⟨d0, d1, d2, d3, d4, d5, d6⟩ := box7 hbx; clear hp hbx ho8 hf8 hb8)
        | (refine stepAppP _ (by rfl) _ _ (by rfl) _ _ _ _ (by rfl) (by rfl) HP.out.own2 HK9.out.own (HLE.out true) ?_; intro v10 w10 ho8 hf8 hb8; have hp := HP.out.app2 ho8 hf8 hb8; have hbx := hf8.blk HBX.out (fun hm => HN2.out _ (by simpa using hm) rfl); (try (have HKn := Lib.hid (HK.out.app2 hf8 hb8); clear HK; have HK := HKn; clear HKn)); clear HP HBX HK9 d0 d1 d2 d3 d4 d5 d6; have HP := Lib.hid hp; have HBX := Lib.hid hbx; obtain ⟨d0, d1, d2, d3, d4, d5, d6⟩ := box7 hbx; clear hp hbx ho8 hf8 hb8))
      all_goals
        refine NoPanic.normal ?_
        go_wp2_with fail
        go_roundw
        case rel => exact ⟨k + 1, by omega, by go_num, Lib.hid (by rw [lnAll_snoc l k x HX.out]; exact HP.out)⟩
        case measure => simp [intOf]; omega
    case neg =>
      have hlk : l.take k = l := List.take_of_length_le (by rw [← HLL.out]; omega)
      have hO : Pool w2 wr u3 u4 (laxP false :: lnAll l) (laxP true :: lnAll l) := by have := HP0.out; rw [hlk] at this; exact this
      obtain ⟨sa, sc, hs1, hs2, hs3, hs4, hs5⟩ := lax_law l (fun e he => ⟨HLO.out.good e he, HOK.out e he, HKEY.out e he⟩)
      have hnice := nice_plain_all HLO.out HOK.out
      have hcap : (lnAll l).length ≤ 140 := by have := lnAll_le HLO.out k; rw [hlk] at this; exact this
      obtain ⟨M, M1, hM, hM0, hM1, hM4⟩ : ∃ M M1, (∀ b, (laxP b :: lnAll l).length = M) ∧ M ≤ 141 ∧ M1 + 1 = M ∧ M - 1 = M1 := ⟨(lnAll l).length + 1, (lnAll l).length, fun b => by rw [List.length_cons], Nat.succ_le_succ hcap, rfl, rfl⟩
      have hw := wr_sub M M1 hM1 (Nat.le_trans hM0 (by decide))
      have hlt1 : (M1 : Int) < (M : Int) := Int.ofNat_lt.2 (by rw [← hM1]; exact Nat.lt_succ_self _)
      obtain ⟨S, hS⟩ : ∃ S, S = sa.buf := ⟨_, rfl⟩
      have hE : ∀ b (vv : Value) (ww : World), Gl B0 ea ww → OwnC ww 38 12 vv (laxP b :: lnAll l).length (cellsOf (laxP b :: lnAll l)) → Calls Tryz.prog 23 #[vv] ww fun e w' => ∃ g cap, e = .returned (.tuple #[.string ⟨S.toArray⟩, .slice (some ⟨g, 0, none⟩) M cap, .bool true]) ∧ Fr [] ww w' ∧ w'.cell? ⟨g, M1 * 3, none⟩ = some (.bool false) := by
        intro b vv ww hg ho
        refine (nice_encode hV (laxP b :: lnAll l) (hnice b) (by rw [hM b]; exact Nat.le_trans hM0 (by decide)) vv ww hg ho).mono ?_
        intro e w' h
        cases b with
        | false =>
          obtain ⟨g, cap, h1, h2, _, h3, _⟩ := enc_known (hnice false) hs1 (Nat.succ_pos _) h
          rw [hM, ← hS] at h1
          rw [hM, hM4, hs4] at h3
          exact ⟨g, cap, h1, h2, h3⟩
        | true =>
          obtain ⟨g, cap, h1, h2, _, h3, _⟩ := enc_known (hnice true) hs2 (Nat.succ_pos _) h
          rw [hM, hs3, ← hS] at h1
          rw [hM, hM4, hs5] at h3
          exact ⟨g, cap, h1, h2, h3⟩
      have HE1 := Lib.hid (hE false u3 wr (HG.out.fr (HF2.out.trans hO.fr) (by simp)) hO.own1)
      have HE2 := Lib.hid (fun ww (f : Fr [] wr ww) => hE true u4 ww (HG.out.fr ((HF2.out.trans hO.fr).trans f) (by simp)) (hO.own2.fr f (by simp)))
      obtain ⟨a8, c8, hv8⟩ := hO.own1.shape
      obtain ⟨a9, c9, hv9⟩ := hO.own2.shape
      rw [hM] at hv8 hv9
      subst hv8 hv9
      have HFW := Lib.hid (HF2.out.trans hO.fr)
      clear hlk hO hs1 hs2 hs3 hs4 hs5 hnice hE hM hM0 hM1 hM4 hcap hS
      go_upto_region 13 with (first
        | (go_at_call_of 23 a8; refine HE1.out.mono ?_; rintro e w9 ⟨g9, cap9, rfl, hf9, d9⟩; have HF9 := Lib.hid hf9; clear hf9)
        | (go_at_call_of 23 a9; refine (HE2.out _ HF9.out).mono ?_; rintro e w10 ⟨g10, cap10, rfl, hf10, d10⟩; have d11 := hf10.cell d9 (by simp); have HF10 := Lib.hid ((HFW.out.trans HF9.out).trans hf10); clear hf10))
      go_wp2_with fail
      go_ret
      exact ⟨rfl, HF10.out⟩
theorem lax_walk (hV : ValidSaid) {ea : Addr} {B0 : Nat} (l : List LnD) (v : Value) (w : World) (hG : Gl B0 ea w) (hlen : l.length ≤ 9223372036854775807) (hok : ∀ e, e ∈ l → LnOk e) (hP : LinesIn w v l) :
    Calls Tryz.prog 8 #[v] w fun e w' => e = .returned (.bool true) ∧ Fr [] w w' := by
  cases hf : fitLs l with
  | false => exact lax_early l v w hlen hok hP hf
  | true => exact lax_main hV l v w hG hok hP hf
end Go.Proofs.YtaaogjhaokaggaaGreatDoor
