/- PROVED HERE: a part of round r2's proofs (text ScW): lemmas and walks that later texts use. CONDITIONS: those written ahead of each theorem. -/
import Derived.Test.YtpkkgngpjeoffaaGreatDoorScP
namespace Go.Proofs.YtpkkgngpjeoffaaGreatDoor
open Go.RowKit

theorem parts_c {e : TypeId} {z : Value} {sz : Nat} (h : (Tryz.prog.info? e).map (fun i => (i.zero, i.size, decide (i.bytes ≤ 1000))) = some (some z, sz, true)) : ∃ i, Tryz.prog.info? e = some i ∧ i.zero = some z ∧ i.size = sz ∧ i.bytes ≤ 1000 := by
  obtain ⟨i, hi, h2⟩ := Option.map_eq_some_iff.1 h
  simp only [Prod.mk.injEq, decide_eq_true_eq] at h2
  exact ⟨i, hi, h2.1, h2.2.1, h2.2.2⟩
theorem info9 : (Tryz.prog.info? 9).map (fun i => (i.zero, i.size, decide (i.bytes ≤ 1000))) = some (some (.string ⟨#[]⟩), 1, true) := by kernel_rfl
set_option maxRecDepth 100000 in
set_option maxHeartbeats 1000000 in
theorem sChunks_any (S : ByteArray) (cs : List (List UInt8)) (w : World) (hS : S.data.toList = wireE cs) (hcs : ∀ c ∈ cs, c ≠ [] ∧ c.length ≤ 1024) (hz : S.size ≤ 1000000000) (hn : cs.length ≤ 1000000) :
    Calls Tryz.prog 7 #[.string S] w fun e w' => ∃ v, e = .returned (.tuple #[v, .int .i64 0, .bool true]) ∧ OwnC w' 9 1 v cs.length (cs.map strV) ∧ Fr [] w w' := by
  obtain ⟨T, hT⟩ : ∃ T, T = S.extract 4 S.size := ⟨_, rfl⟩
  have hwl : wireE cs = [36, 63, 13, 10] ++ ((cs.map chunkE).flatten ++ chunkE []) := by unfold wireE; simp
  have hTl : T.data.toList = (cs.map chunkE).flatten ++ chunkE [] := by
    have := ext_list 4 (rfl : S.data.toList = S.data.toList)
    rw [hT, show S.size = S.data.toList.length from Lib.size_eq _, this, hS, hwl]
    rfl
  have hz4 : 4 ≤ S.size := by
    rw [Lib.size_eq, hS, hwl, List.length_append]
    simp
  have hpre : S.extract 0 4 = { data := #[36, 63, 13, 10] } := by
    have : (S.extract 0 4).data.toList = [36, 63, 13, 10] := by
      rw [ByteArray.data_extract, Array.toList_extract, List.extract_eq_take_drop, hS, hwl]
      rfl
    cases hh : S.extract 0 4 with
    | mk d => rw [hh] at this; congr 1; exact Array.toList_inj.1 this
  have hTz : T.size ≤ 1000000000 := by rw [hT, ByteArray.size_extract]; omega
  have hTL : T.size = posE cs cs.length + ((chunkE []).length + 0) := by rw [Lib.size_eq, hTl, posE_all]; rfl
  have i4 : (4 : Int) ≤ (S.size : Int) := by omega
  have i5 : decide ((S.size : Int) < 4) = false := decide_eq_false (by omega)
  have i6 : (S.size : Int) ≤ 1000000000 := by omega
  have HTL := Lib.hid hTl
  have HTS := Lib.hid hTL
  have HT := Lib.hid hT
  have HCS := Lib.hid hcs
  obtain ⟨N, hN⟩ : ∃ N, N = cs.length := ⟨_, rfl⟩
  have HN := Lib.hid hN
  rw [← hN] at hn ⊢
  have hsf : ∀ (a : Addr) (k : FloatKind) (b : Nat) (m : Mode) (w : World), (store a (.float k b) m).run Tryz.prog w = stored Tryz.prog w a (.float k b) m := fun a k b m w => run_store Tryz.prog w a _ m rfl
  obtain ⟨i9, hi9, hz9, hs9, hb9⟩ := parts_c info9
  have HI := Lib.hid (And.intro hi9 (And.intro hz9 (And.intro hs9 hb9)))
  clear hS hcs hT hTl hTL hwl hN hi9 hz9 hs9 hb9
  go_enter Tryz.func7, Tryz.ntmps7
  go_upto_region 4 with (go_at_call 19; refine (newTaker_any _ w).mono ?_; rintro e w1 ⟨t, rfl, hf1, hT1, ht1⟩; rw [← HT.out] at hT1; have HF1 := Lib.hid hf1; have HT1 := Lib.hid hT1; have HT0 := Lib.hid ht1; clear hf1 hT1 ht1)
  go_loopw [2] (fun v wr => Hid (∃ k : Nat, k ≤ N ∧ OwnC wr 9 1 v k ((cs.take k).map strV) ∧ Tk wr t T (posE cs k) ∧ Fr [] w wr ∧ ∀ g, v.ownBlock = some g → w.heap.size ≤ g ∧ g ≠ t)) (fun v _ => N - slLen v)
  case atStart => exact Lib.hid ⟨0, by omega, by simpa using OwnC.nil _ _ _, by simpa [posE] using HT1.out, HF1.out, fun g hg => by simp [Value.ownBlock] at hg⟩
  case round =>
    obtain ⟨k, hk, hO, hTk, hF, hB⟩ := hrel.out
    obtain ⟨va, vc, rfl⟩ := hO.shape
    have HO := Lib.hid hO
    have HTk := Lib.hid hTk
    have HF := Lib.hid hF
    have HB := Lib.hid hB
    have htw : t < wr.heap.size := (Array.getElem?_eq_some_iff.1 hTk).1
    have HTW := Lib.hid htw
    clear hO hTk hF hB htw hrel
    by_cases hlt : k < N
    · have hlt' : k < cs.length := by rw [← HN.out]; exact hlt
      obtain ⟨hc0, hc1⟩ := HCS.out _ (List.getElem_mem hlt')
      have hnx := posE_succ hlt'
      have HM := Lib.hid (message_any t T (posE cs k) cs[k] _ wr HTk.out (by omega) (by rw [HTL.out]; exact drop_posE cs hlt') hTz)
      have htk : (cs.take (k + 1)).map strV = (cs.take k).map strV ++ [strV cs[k]] := by rw [← List.take_append_getElem hlt', List.map_append]; rfl
      rw [← hnx] at HM
      have HTKE := Lib.hid htk
      have HC0 := Lib.hid hc0
      clear hnx htk hc0 hc1
      go_upto_region 5 with (go_at_call 20; refine HM.out.mono ?_; rintro e wm ⟨m, rfl, hm, hfm, hTm⟩; have HMM := Lib.hid hm; have HFM := Lib.hid hfm; have HTM := Lib.hid hTm; clear hm hfm hTm)
      obtain ⟨w2, hw2⟩ : ∃ x, x = wm.alloc (.cells #[.int .i64 59, .string m, .int .i64 0, .float .f64 0, .bool false, .string { data := #[] }, .int .i64 0, .bool false] 37) := ⟨_, rfl⟩
      rw [← hw2]
      have hf2 : Fr [] wm w2 := by rw [hw2]; exact (Fr.refl [] wm).alloc _
      have hr2 : w2.heap[wm.heap.size]? = some (.cells #[.int .i64 59, .string m, .int .i64 0, .float .f64 0, .bool false, .string { data := #[] }, .int .i64 0, .bool false] 37 (0, 0)) := by rw [hw2]; exact heap_alloc_new wm _
      have hT2 : Tk w2 t T (posE cs (k + 1)) := HTM.out.fr hf2 List.not_mem_nil
      have c2 := cell_of_row w2 t 2 _ 66 _ hT2
      have d1 := cell_of_row w2 wm.heap.size 1 _ 37 _ hr2
      have HT2 := Lib.hid hT2
      have HF2 := Lib.hid (HFM.out.trans (hf2.sub (by simp)))
      have hms : ¬ m.size = 0 := by
        rw [Lib.size_eq, HMM.out]
        exact fun e => HC0.out (List.eq_nil_of_length_eq_zero e)
      have hms2 : ((m.size : Int) == 0) = false := beq_eq_false_iff_ne.2 (by omega)
      have hk2 : k < 1000000 := by omega
      have HSV := Lib.hid (strV_of HMM.out)
      obtain ⟨g2, hg2⟩ : ∃ x, x = wm.heap.size := ⟨_, rfl⟩
      rw [← hg2] at d1 ⊢
      clear hw2 hf2 hr2 hT2 hg2
      have hO2 : OwnC w2 9 1 (.slice va k vc) k ((cs.take k).map strV) := HO.out.fr HF2.out (fun g hg => by have := (HB.out g hg).2; simpa using this)
      have HO2 := Lib.hid hO2
      clear hO2
      go_wp2_with (at_builtin; refine wpApp1C w2 (o := ⟨some 46, _, _, _, _, _⟩) rfl (.tmp 42) (.tmp 45) 25 rfl 9 i9 _ Tryz.underlying25 HI.out.1 HI.out.2.1 1 HI.out.2.2.1 HI.out.2.2.2 rfl (.slice va k vc) k ((cs.take k).map strV) #[.string m] rfl (by simp [Value.oneCell']) rfl rfl HO2.out (by omega) ?_; intro v3 w3 ho3 hf3 hb3; have HO3 := Lib.hid ho3; have HF3 := Lib.hid hf3; have HB3 := Lib.hid hb3; clear ho3 hf3 hb3)
      go_roundw
      case rel =>
        refine Lib.hid ⟨k + 1, by omega, ?_, ?_, ?_, ?_⟩
        · have := HO3.out
          rw [show (#[Value.string m] : Array Value).toList = [strV cs[k]] from by rw [← HSV.out], ← HTKE.out] at this
          exact this
        · exact HT2.out.fr HF3.out (fun hm => by have := (HB.out t (by simpa using hm)).2; exact this rfl)
        · exact (HF.out.step HF2.out (fun x hx => by simp at hx; subst hx; exact .inr HT0.out)).step HF3.out (fun x hx => .inr (HB.out x (by simpa using hx)).1)
        · intro g hg
          have h1 := HF2.out.size
          have h2 := HF.out.size
          have h3 := HTW.out
          rcases HB3.out with h | ⟨g', h, hge⟩
          · exact HB.out g (by rw [← h]; exact hg)
          · rw [h] at hg
            cases hg
            exact ⟨by omega, by omega⟩
      case measure =>
        obtain ⟨a, c, e⟩ := HO3.out.shape
        rw [e]
        simp [slLen]
        omega
    · have hkN : k = N := by omega
      subst hkN
      have hp : posE cs k = posE cs cs.length := by rw [HN.out]
      have HM := Lib.hid (message_any t T (posE cs cs.length) [] [] wr (by rw [← hp]; exact HTk.out) (by simp) (by rw [HTL.out]; exact drop_posE_end cs) hTz)
      obtain ⟨p2, hp2⟩ : ∃ p2, p2 = posE cs cs.length + (chunkE []).length := ⟨_, rfl⟩
      rw [← hp2] at HM
      have HP2 := Lib.hid hp2
      clear hp hp2
      go_upto_region 5 with (go_at_call 20; refine HM.out.mono ?_; rintro e wm ⟨m, rfl, hm, hfm, hTm⟩; have HMM := Lib.hid hm; have HFM := Lib.hid hfm; have HTM := Lib.hid hTm; clear hm hfm hTm)
      obtain ⟨w2, hw2⟩ : ∃ x, x = wm.alloc (.cells #[.int .i64 59, .string m, .int .i64 0, .float .f64 0, .bool false, .string { data := #[] }, .int .i64 0, .bool false] 37) := ⟨_, rfl⟩
      rw [← hw2]
      have hf2 : Fr [] wm w2 := by rw [hw2]; exact (Fr.refl [] wm).alloc _
      have hr2 : w2.heap[wm.heap.size]? = some (.cells #[.int .i64 59, .string m, .int .i64 0, .float .f64 0, .bool false, .string { data := #[] }, .int .i64 0, .bool false] 37 (0, 0)) := by rw [hw2]; exact heap_alloc_new wm _
      have hT2 : Tk w2 t T p2 := HTM.out.fr hf2 List.not_mem_nil
      have c2 := cell_of_row w2 t 2 _ 66 _ hT2
      have d1 := cell_of_row w2 wm.heap.size 1 _ 37 _ hr2
      have HT2 := Lib.hid hT2
      have HF2 := Lib.hid (HFM.out.trans (hf2.sub (by simp)))
      have hms : m.size = 0 := by rw [Lib.size_eq, HMM.out]; rfl
      obtain ⟨g2, hg2⟩ : ∃ x, x = wm.heap.size := ⟨_, rfl⟩
      rw [← hg2] at d1 ⊢
      have HLF := Lib.hid (fun W (hW : Tk W t T p2) => left_any t T p2 0 W hW (by rw [HTS.out, HP2.out]; omega) hTz)
      clear hw2 hf2 hr2 hT2 hg2
      have hO2 : OwnC w2 9 1 (.slice va k vc) k ((cs.take k).map strV) := HO.out.fr HF2.out (fun g hg => by have := (HB.out g hg).2; simpa using this)
      have HO2 := Lib.hid hO2
      clear hO2
      go_wp2_with (first
        | (go_at_call 21; refine (HLF.out _ (HT2.out.fr ((Fr.refl [] w2).drewN _) List.not_mem_nil)).mono ?_; rintro e w4 ⟨rfl, q4, rfl⟩)
        | (go_at_call 21; refine (HLF.out _ HT2.out).mono ?_; rintro e w3 ⟨rfl, q3, rfl⟩))
      go_ret3
      refine ⟨_, rfl, ?_, ?_⟩
      · have := HO2.out
        rw [HN.out, List.take_length] at this
        rw [HN.out]
        exact this.fr ((Fr.refl [] w2).drewN _) (by simp)
      · exact (HF.out.step HF2.out (fun x hx => by simp at hx; subst hx; exact .inr HT0.out)).drewN _
end Go.Proofs.YtpkkgngpjeoffaaGreatDoor
