/- PROVED HERE: a part of round r2's proofs (text StL): lemmas and walks that later texts use. CONDITIONS: those written ahead of each theorem. -/
import Derived.Test.YtpkkgngpjeoffaaGreatDoorLwP
namespace Go.Proofs.YtpkkgngpjeoffaaGreatDoor
open Go.RowKit

/-- What the law's last loop is to come to. -/
def StG (w : World) (e : Ending) (w' : World) : Prop := e = .returned (.bool true) ∧ Fr [] w w'
set_option maxRecDepth 100000 in
set_option maxHeartbeats 4000000 in
theorem stream_law {ea : Addr} (S : ByteArray) (l : List UInt8) (sv : Value) (sz : List Int) (w : World) (hG : Gv w.heap.size ea w) (hsv : SzS w w.heap.size sv sz) (hS : S.data.toList = l) (hlen : S.size ≤ 5000) (hsl : sz.length ≤ 50) :
    Calls Tryz.prog 3 #[.string S, sv] w (StG w) := by
  have hl2 : l.length ≤ 5000 := by rw [← hS, ← Lib.size_eq]; exact hlen
  have HSW := Lib.hid (streamWrite_any (ea := ea) S sv sz l w hG hsv hS (by omega) (by omega))
  have HSV := Lib.hid hsv
  have HS := Lib.hid hS
  have HL2 := Lib.hid hl2
  have HSL := Lib.hid hsl
  obtain ⟨ao, sc, rfl, hsv⟩ := hsv
  obtain ⟨N, hN⟩ : ∃ N, N = sz.length := ⟨_, rfl⟩
  have HC := Lib.hid (fun k (h : k < sz.length) => (show ∃ g off, ao = some ⟨g, off, none⟩ ∧ g < w.heap.size ∧ w.cell? ⟨g, off + k, none⟩ = some (.int .i64 sz[k]) from by
    obtain ⟨g, off, h1, h2, h3⟩ := hsv (by rintro rfl; simp at h)
    exact ⟨g, off, h1, h2, h3 k h⟩))
  rw [← hN] at hsl HSW ⊢
  have HN := Lib.hid hN
  have d1 : decide ((2147483647 : Int) < (S.size : Int)) = false := decide_eq_false (by omega)
  have d2 : decide ((5000 : Int) < (S.size : Int)) = false := decide_eq_false (by omega)
  have d3 : decide ((2147483647 : Int) < (N : Int)) = false := decide_eq_false (by omega)
  have d4 : decide ((50 : Int) < (N : Int)) = false := decide_eq_false (by omega)
  have e1 : ¬ ((2147483647 : Int) < (S.size : Int)) := by omega
  have e2 : ¬ ((5000 : Int) < (S.size : Int)) := by omega
  have e3 : ¬ ((2147483647 : Int) < (N : Int)) := by omega
  have e4 : ¬ ((50 : Int) < (N : Int)) := by omega
  have hN2 : N ≤ 50 := hsl
  clear hG hsv hS hlen hsl hl2 hN
  go_enter Tryz.func3, Tryz.ntmps3
  go_upto_region 9 with (first
    | (go_at_call 6; refine HSW.out.mono ?_; rintro e w1 ⟨cs, hrun, rfl, hf1⟩; have HRUN := Lib.hid hrun; have HF1 := Lib.hid hf1; clear hrun hf1)
    | (go_at_call 7; refine (sChunks_any _ cs w1 (by simp) HRUN.out.ne (wireE_size HRUN.out HL2.out) (by have h1 := HRUN.out.count; have h2 := HL2.out; omega)).mono ?_; rintro e w2 ⟨cv, rfl, ho2, hf2⟩; have HO2 := Lib.hid ho2; have HF2 := Lib.hid (HF1.out.trans hf2); clear ho2 hf2))
  obtain ⟨ca, cc, rfl⟩ := HO2.out.shape
  obtain ⟨M, hM⟩ : ∃ M, M = cs.length := ⟨_, rfl⟩
  rw [← hM] at HO2 ⊢
  have HM := Lib.hid hM
  have hM5 : M ≤ 5000 := by have h1 := HRUN.out.count; have h2 := HL2.out; omega
  have HCH := Lib.hid (fun j (h : j < cs.length) => (show ∃ g, ca = some ⟨g, 0, none⟩ ∧ w2.cell? ⟨g, j, none⟩ = some (strV cs[j]) from by
    obtain ⟨g, cap, e, _, _, h2⟩ := HO2.out.row (by omega)
    cases e
    exact ⟨g, rfl, h2 j _ (by simp [h])⟩))
  have HC2 := Lib.hid (fun k (h : k < sz.length) => (show ∃ g off, ao = some ⟨g, off, none⟩ ∧ w2.cell? ⟨g, off + k, none⟩ = some (.int .i64 sz[k]) from by
    obtain ⟨g, off, h1, h2, h3⟩ := HC.out k h
    exact ⟨g, off, h1, HF2.out.cell h3 List.not_mem_nil⟩))
  clear hM HC
  go_wp2_with fail
  go_loopw [10, 54] (fun b i wr => ∃ k : Nat, k ≤ N ∧ i = .int .i64 k ∧ b = .bool (anyPos (sz.take k)) ∧ wr = w2) (fun _ i _ => N - (intOf i).toNat)
  case atStart => exact ⟨0, by omega, rfl, rfl, rfl⟩
  case round =>
    obtain ⟨k, hk, rfl, rfl, rfl⟩ := hrel
    by_cases hlt : k < N
    · have hlt' : k < sz.length := by rw [← HN.out]; exact hlt
      have hsu := anyPos_succ sz k hlt'
      obtain ⟨g, off, rfl, hc⟩ := HC2.out k hlt'
      obtain ⟨x, hx⟩ : ∃ x, x = sz[k] := ⟨_, rfl⟩
      rw [← hx] at hsu hc
      obtain ⟨b', hb'⟩ : ∃ b, b = anyPos (sz.take (k + 1)) := ⟨_, rfl⟩
      obtain ⟨b, hb⟩ : ∃ b, b = anyPos (sz.take k) := ⟨_, rfl⟩
      rw [← hb', ← hb] at hsu
      rw [← hb]
      have HB' := Lib.hid hb'
      have HSU := Lib.hid hsu
      clear hb' hb hsu hx
      cases b with
      | true =>
        go_wp2_with fail
        go_roundw
        case rel => exact ⟨k + 1, by omega, by go_num, by rw [← HB'.out, HSU.out]; rfl, trivial⟩
        case measure => simp [intOf]; omega
      | false =>
        go_wp2_with fail
        all_goals
          go_roundw
          case rel => exact ⟨k + 1, by omega, by go_num, by rw [← HB'.out, HSU.out]; rfl, trivial⟩
          case measure => simp [intOf]; omega
    · have hkN : k = N := by omega
      obtain ⟨b, hb⟩ : ∃ b, b = anyPos (sz.take k) := ⟨_, rfl⟩
      rw [← hb]
      rw [hkN, HN.out, List.take_length] at hb
      have HB := Lib.hid hb
      clear hb hkN hk
      cases b with
      | true =>
        have HEF : Hid (effS sz = sz) := Lib.hid (if_pos HB.out.symm)
        have hn0 : 0 < N := by rw [HN.out]; exact List.length_pos_iff.2 (anyPos_ne HB.out.symm)
        go_wp2_with fail
        go_loopw [13, 14, 66] (fun i13 wh ix wx => ∃ (j a : Nat) (rest : List UInt8) (W : ByteArray), i13 = .int .i64 a ∧ wh = .string W ∧ ix = .int .i64 j ∧ wx = wr ∧ Hid (j ≤ M ∧ a ≤ 51 * j ∧ W.data.toList ++ rest = l ∧ Run sz a rest (cs.drop j))) (fun _ _ ix _ => M - (intOf ix).toNat)
        case atStart => exact ⟨0, 0, l, { data := #[] }, rfl, rfl, rfl, rfl, Lib.hid ⟨by omega, by omega, rfl, by rw [← HEF.out]; exact HRUN.out⟩⟩
        case round =>
          obtain ⟨j, a, rest, W, rfl, rfl, rfl, rfl, HH⟩ := hrel
          by_cases hj : j < M
          · have hj' : j < cs.length := by rw [← HM.out]; exact hj
            obtain ⟨g, rfl, hcell⟩ := HCH.out j hj'
            obtain ⟨C, hC⟩ : ∃ C : ByteArray, C.data.toList = cs[j] ∧ strV cs[j] = .string C := ⟨⟨cs[j].toArray⟩, by simp, rfl⟩
            rw [hC.2] at hcell
            have HCC := Lib.hid hC.1
            have ha : a ≤ 255000 := by have := HH.out.2.1; omega
            clear hC
            go_wp2_with fail
            go_loopw [13] (fun i13 wx => ∃ a' : Nat, i13 = .int .i64 a' ∧ wx = wr ∧ Hid (a' + far sz sz.length a' = a + far sz sz.length a ∧ Run sz a' rest (cs.drop j))) (fun i13 _ => far sz sz.length (intOf i13).toNat)
            case atStart => exact ⟨a, rfl, rfl, Lib.hid ⟨rfl, HH.out.2.2.2⟩⟩
            case round =>
              obtain ⟨a', rfl, rfl, HI⟩ := hrel
              have hne : sz ≠ [] := anyPos_ne HB.out.symm
              have ha' : a' ≤ 255050 := by
                have h1 := HI.out.1
                have h2 := far_le sz sz.length a
                have h3 := HSL.out
                omega
              obtain ⟨hk1, hk2⟩ := szAt_get hne a'
              obtain ⟨sg, so, e, hsc⟩ := HC2.out _ hk1
              cases e
              rw [hk2] at hsc
              obtain ⟨m, hm⟩ : ∃ m, m = a' % sz.length := ⟨_, rfl⟩
              have hk3 : Int.tmod (a' : Int) (N : Int) = (m : Int) := by rw [hm, HN.out]; rw [Int.tmod_eq_emod_of_nonneg (by omega), Int.natCast_emod]
              rw [← hm] at hsc hk1
              rw [← HN.out] at hk1
              obtain ⟨z, hz⟩ : ∃ z, z = szAt sz a' := ⟨_, rfl⟩
              rw [← hz] at hsc
              have i3 : (0 : Int) < (N : Int) := by omega
              have i4 : (m : Int) < (N : Int) := by omega
              have HZ := Lib.hid hz
              have hdj : cs.drop j = cs[j] :: cs.drop (j + 1) := List.drop_eq_getElem_cons hj'
              have HDJ := Lib.hid hdj
              have HNE := Lib.hid hne
              clear hk2 hm hz hdj hne
              by_cases hz0 : z ≤ 0
              · have hzd : decide (z ≤ 0) = true := decide_eq_true hz0
                go_wp2_with fail
                go_roundw
                case rel =>
                  refine ⟨a' + 1, by go_num, trivial, Lib.hid ⟨?_, ?_⟩⟩
                  · have := far_skip HB.out.symm (by rw [← HZ.out]; exact hz0)
                    have h1 := HI.out.1
                    omega
                  · have h1 := HI.out.2
                    rw [HDJ.out] at h1 ⊢
                    exact h1.skipped HNE.out (by rw [← HZ.out]; exact hz0)
                case measure =>
                  have := far_skip HB.out.symm (by rw [← HZ.out]; exact hz0)
                  simp [intOf]
                  omega
              · have hzd : decide (z ≤ 0) = false := decide_eq_false hz0
                have hzp : 0 < z := by omega
                obtain ⟨p, hp⟩ : ∃ p, p = min 1024 z.toNat := ⟨_, rfl⟩
                have hp1 : min (1024 : Int) z = (p : Int) := by omega
                obtain ⟨ht1, ht2⟩ := (show Run sz a' rest (cs[j] :: cs.drop (j + 1)) from by rw [← HDJ.out]; exact HI.out.2).taken HNE.out (by rw [← HZ.out]; exact hzp)
                rw [← HZ.out, ← hp] at ht1 ht2
                have hsum : S.size = W.size + rest.length := by
                  have h1 := congrArg List.length HH.out.2.2.1
                  rw [List.length_append, ← Lib.size_eq] at h1
                  rw [Lib.size_eq, HS.out, ← h1]
                have hCz : C.size = min p rest.length := by rw [Lib.size_eq, HCC.out, ht1, List.length_take]
                obtain ⟨R, hR⟩ : ∃ R, R = rest.length := ⟨_, rfl⟩
                rw [← hR] at hsum hCz
                have hz5 : S.size ≤ 5000 := by rw [Lib.size_eq, HS.out]; exact HL2.out
                have hp2 : p ≤ 1024 := by omega
                have i5 : (W.size : Int) ≤ (S.size : Int) := by omega
                have i6 : (S.size : Int) ≤ 5000 := by omega
                have hmn : min (p : Int) ((S.size : Int) - (W.size : Int)) = (C.size : Int) := by omega
                have HT1 := Lib.hid ht1
                have HT2 := Lib.hid ht2
                clear hsum hCz hR hp ht1 ht2 hz5
                go_wp2_with fail
                go_roundw
                case rel =>
                  refine ⟨j + 1, a' + 1, rest.drop p, W ++ C, by go_num, rfl, by go_num, trivial, Lib.hid ⟨by omega, ?_, ?_, HT2.out⟩⟩
                  · have h1 := HI.out.1
                    have h2 := far_le sz sz.length a
                    have h3 := HSL.out
                    have h4 := HH.out.2.1
                    omega
                  · rw [ByteArray.data_append, Array.toList_append, HCC.out, HT1.out, List.append_assoc, List.take_append_drop]
                    exact HH.out.2.2.1
                case measure =>
                  simp [intOf]
                  omega
          · have hjM : j = M := by have := HH.out.1; omega
            subst hjM
            have hd : cs.drop j = [] := by rw [HM.out, List.drop_length]
            have hr := HH.out.2.2.2
            rw [hd] at hr
            have hWS : W = S := by
              have h1 := HH.out.2.2.1
              rw [run_end hr, List.append_nil, ← HS.out] at h1
              cases W; cases S
              congr 1
              exact Array.toList_inj.1 h1
            subst hWS
            clear hd hr
            go_wp2_with fail
            go_ret
            exact ⟨by simp, HF2.out⟩
      | false =>
        have HEF : Hid (effS sz = []) := Lib.hid (if_neg (by rw [← HB.out]; decide))
        go_wp2_with fail
        go_loopw [13, 14, 66] (fun i13 wh ix wx => ∃ (j a : Nat) (rest : List UInt8) (W : ByteArray), i13 = .int .i64 a ∧ wh = .string W ∧ ix = .int .i64 j ∧ wx = wr ∧ Hid (j ≤ M ∧ a ≤ 51 * j ∧ W.data.toList ++ rest = l ∧ Run [] 0 rest (cs.drop j))) (fun _ _ ix _ => M - (intOf ix).toNat)
        case atStart => exact ⟨0, 0, l, { data := #[] }, rfl, rfl, rfl, rfl, Lib.hid ⟨by omega, by omega, rfl, by rw [← HEF.out]; exact HRUN.out⟩⟩
        case round =>
          obtain ⟨j, a, rest, W, rfl, rfl, rfl, rfl, HH⟩ := hrel
          by_cases hj : j < M
          · have hj' : j < cs.length := by rw [← HM.out]; exact hj
            obtain ⟨g, rfl, hcell⟩ := HCH.out j hj'
            obtain ⟨C, hC⟩ : ∃ C : ByteArray, C.data.toList = cs[j] ∧ strV cs[j] = .string C := ⟨⟨cs[j].toArray⟩, by simp, rfl⟩
            rw [hC.2] at hcell
            have HCC := Lib.hid hC.1
            have ha : a ≤ 255000 := by have := HH.out.2.1; omega
            clear hC
            go_wp2_with fail
            go_loopw [13] (fun i13 wx => i13 = .int .i64 a ∧ wx = wr) (fun _ _ => 0)
            case atStart => exact ⟨rfl, rfl⟩
            case round =>
              obtain ⟨rfl, rfl⟩ := hrel
              have hdj : cs.drop j = cs[j] :: cs.drop (j + 1) := List.drop_eq_getElem_cons hj'
              obtain ⟨ht1, ht2⟩ := (show Run [] 0 rest (cs[j] :: cs.drop (j + 1)) from by rw [← hdj]; exact HH.out.2.2.2).wholly
              have hsum : S.size = W.size + rest.length := by
                have h1 := congrArg List.length HH.out.2.2.1
                rw [List.length_append, ← Lib.size_eq] at h1
                rw [Lib.size_eq, HS.out, ← h1]
              have hCz : C.size = min 1024 rest.length := by rw [Lib.size_eq, HCC.out, ht1, List.length_take]
              obtain ⟨R, hR⟩ : ∃ R, R = rest.length := ⟨_, rfl⟩
              rw [← hR] at hsum hCz
              have hz5 : S.size ≤ 5000 := by rw [Lib.size_eq, HS.out]; exact HL2.out
              have i5 : (W.size : Int) ≤ (S.size : Int) := by omega
              have i6 : (S.size : Int) ≤ 5000 := by omega
              have hmn : min (1024 : Int) ((S.size : Int) - (W.size : Int)) = (C.size : Int) := by omega
              have HT1 := Lib.hid ht1
              have HT2 := Lib.hid ht2
              clear hsum hCz hR ht1 ht2 hz5 hdj
              go_wp2_with fail
              go_roundw
              case rel =>
                refine ⟨j + 1, a + 1, rest.drop 1024, W ++ C, by go_num, rfl, by go_num, trivial, Lib.hid ⟨by omega, ?_, ?_, HT2.out⟩⟩
                · have h4 := HH.out.2.1
                  omega
                · rw [ByteArray.data_append, Array.toList_append, HCC.out, HT1.out, List.append_assoc, List.take_append_drop]
                  exact HH.out.2.2.1
              case measure =>
                simp [intOf]
                omega
          · have hjM : j = M := by have := HH.out.1; omega
            subst hjM
            have hd : cs.drop j = [] := by rw [HM.out, List.drop_length]
            have hr := HH.out.2.2.2
            rw [hd] at hr
            have hWS : W = S := by
              have h1 := HH.out.2.2.1
              rw [run_end hr, List.append_nil, ← HS.out] at h1
              cases W; cases S
              congr 1
              exact Array.toList_inj.1 h1
            subst hWS
            clear hd hr
            go_wp2_with fail
            go_ret
            exact ⟨by simp, HF2.out⟩
end Go.Proofs.YtpkkgngpjeoffaaGreatDoor
