import Derived.Test.YtaaogjhaokaggaaGreatDoorUtf0
import Derived.Test.YtaaogjhaokaggaaGreatDoorKey
namespace Go.Proofs.YtaaogjhaokaggaaGreatDoor
open Go.RowKit

theorem bt_at (s : ByteArray) (k : Nat) (h : k < s.size) : Bt s.data.toList k = s[k].toNat := by
  unfold Bt
  rw [List.getD_eq_getElem?_getD, Array.getElem?_toList]
  have : s.data[k]? = some s[k] := Array.getElem?_eq_getElem h
  rw [this]
  rfl

set_option maxRecDepth 100000 in
set_option maxHeartbeats 8000000 in
theorem specUtf8_any (s : ByteArray) (hs : s.size ≤ 1000000000) (w : World) :
    Calls Tryz.prog 33 #[.string s] w fun e w' => e = .returned (.bool (Lib.validD s.data.toList)) ∧ w' = w := by
  obtain ⟨R, hR⟩ : ∃ R, R = Lib.validD s.data.toList := ⟨_, rfl⟩
  have HR := Lib.hid hR
  rw [← hR]; clear hR
  have HL : Hid (s.data.toList.length = s.size) := Lib.hid (by simp)
  go_enter Tryz.func33, Tryz.ntmps33
  go_wp2_with fail
  go_loopw [3] (fun i wr => ∃ k : Nat, k ≤ s.size ∧ i = .int .i64 k ∧ Hid (Lib.validD (s.data.toList.drop k) = R) ∧ wr = w) (fun i _ => s.size - (RowKit.intOf i).toNat)
  case atStart => exact ⟨0, by omega, rfl, Lib.hid (by rw [HR.out]; rfl), rfl⟩
  case round =>
    obtain ⟨k, hk, rfl, H, rfl⟩ := hrel
    by_cases hlt : k < s.size
    case neg =>
      go_wp2_with fail
      go_ret
      have : k = s.size := by omega
      refine ⟨ret_bool ?_, rfl⟩
      rw [← H.out, List.drop_eq_nil_of_le (by rw [HL.out]; omega)]
      rfl
    have hb := bt_at s k hlt
    have HB := Lib.hid hb; clear hb
    have hlt2 : k < s.data.toList.length := by rw [HL.out]; exact hlt
    have HLT := Lib.hid hlt2; clear hlt2
    by_cases hc : s[k].toNat < 128
    · have hci : (s[k].toNat : Int) < 128 := by omega
      have HV : Hid (Lib.validD (s.data.toList.drop (k + 1)) = R) := Lib.hid (by rw [← v_cons _ _ HLT.out (by rw [HB.out]; exact hc)]; exact H.out)
      go_wp2_with fail
      refine wp_loop_rounds 1 ?_
      rw [rounds_succ]
      go_wp2_with fail
      go_roundw
      case rel => exact ⟨k + 1, by omega, by go_num, HV, trivial⟩
      case measure => simp [RowKit.intOf]; omega

    -- C2
    by_cases hq : 194 ≤ s[k].toNat ∧ s[k].toNat ≤ 223
    · have hq := Lib.hid hq
      have LD : Hid (Lead (Bt s.data.toList k) 1 128 191) := Lib.hid (by rw [HB.out]; exact lead_C2 _ (by have := hq.out; omega) (by have := hq.out; omega))
      obtain ⟨CI, hCI⟩ : ∃ CI : Int, CI = (s[k].toNat : Int) := ⟨_, rfl⟩
      have hc1 : (194 : Int) ≤ (s[k].toNat : Int) := by have := hq.out; omega
      have hc2 : (s[k].toNat : Int) ≤ 223 := by have := hq.out; omega
      clear hCI
      go_wp2_with fail
      refine wp_loop_rounds 2 ?_
      rw [rounds_succ]
      by_cases h1 : k + 1 < s.size
      case neg =>
        have HBAD : Hid (R = false) := Lib.hid (by rw [← H.out]; exact LD.out.bad HLT.out (by rw [HB.out]; have := hq.out; omega) 1 (by decide) (by decide) (by unfold okAt; rw [HL.out]; omega))
        go_wp2_with fail
        go_ret
        exact ⟨ret_bool HBAD.out.symm, rfl⟩
      have hb1 := Lib.hid (bt_at s (k + 1) h1)
      by_cases l1 : s[k + 1].toNat < 128
      case pos =>
        have HBAD : Hid (R = false) := Lib.hid (by rw [← H.out]; exact LD.out.bad HLT.out (by rw [HB.out]; have := hq.out; omega) 1 (by decide) (by decide) (by unfold okAt; rw [HL.out]; have h9 := hb1.out; intro h7; have h8 := h7.2.1; rw [h9] at h8; split at h8 <;> omega))
        go_wp2_with fail
        go_ret
        exact ⟨ret_bool HBAD.out.symm, rfl⟩
      by_cases g1 : 191 < s[k + 1].toNat
      case pos =>
        have HBAD : Hid (R = false) := Lib.hid (by rw [← H.out]; exact LD.out.bad HLT.out (by rw [HB.out]; have := hq.out; omega) 1 (by decide) (by decide) (by unfold okAt; rw [HL.out]; have h9 := hb1.out; intro h7; have h8 := h7.2.2; rw [h9] at h8; split at h8 <;> omega))
        go_wp2_with fail
        go_ret
        exact ⟨ret_bool HBAD.out.symm, rfl⟩
      have HK1 : Hid (okAt s.data.toList k 128 191 1) := Lib.hid (by unfold okAt; rw [HL.out, hb1.out]; exact ⟨h1, by split <;> omega, by split <;> omega⟩)
      go_wp2_with fail
      rw [rounds_succ]
      have HV : Hid (Lib.validD (s.data.toList.drop (k + (1 + 1))) = R) := Lib.hid (by rw [← LD.out.good HLT.out (by rw [HB.out]; have := hq.out; omega) (fun u hu0 hu1 => by (rcases (show u = 1 from (by omega)) with rfl <;> first | exact HK1.out))]; exact H.out)
      go_wp2_with fail
      go_roundw
      case rel => exact ⟨k + (1 + 1), by omega, by go_num, HV, trivial⟩
      case measure => simp [RowKit.intOf]; try omega
    -- E0
    by_cases hq : s[k].toNat = 224
    · have hq := Lib.hid hq
      have LD : Hid (Lead (Bt s.data.toList k) 2 160 191) := Lib.hid (by have e : Bt s.data.toList k = 224 := HB.out.trans hq.out; rw [e]; exact lead_E0)
      obtain ⟨CI, hCI⟩ : ∃ CI : Int, CI = (s[k].toNat : Int) := ⟨_, rfl⟩
      have hch : (s[k].toNat : Int) = 224 := by have := hq.out; omega
      clear hCI
      go_wp2_with fail
      refine wp_loop_rounds 3 ?_
      rw [rounds_succ]
      by_cases h1 : k + 1 < s.size
      case neg =>
        have HBAD : Hid (R = false) := Lib.hid (by rw [← H.out]; exact LD.out.bad HLT.out (by rw [HB.out]; have := hq.out; omega) 1 (by decide) (by decide) (by unfold okAt; rw [HL.out]; omega))
        go_wp2_with fail
        go_ret
        exact ⟨ret_bool HBAD.out.symm, rfl⟩
      have hb1 := Lib.hid (bt_at s (k + 1) h1)
      by_cases l1 : s[k + 1].toNat < 160
      case pos =>
        have HBAD : Hid (R = false) := Lib.hid (by rw [← H.out]; exact LD.out.bad HLT.out (by rw [HB.out]; have := hq.out; omega) 1 (by decide) (by decide) (by unfold okAt; rw [HL.out]; have h9 := hb1.out; intro h7; have h8 := h7.2.1; rw [h9] at h8; split at h8 <;> omega))
        go_wp2_with fail
        go_ret
        exact ⟨ret_bool HBAD.out.symm, rfl⟩
      by_cases g1 : 191 < s[k + 1].toNat
      case pos =>
        have HBAD : Hid (R = false) := Lib.hid (by rw [← H.out]; exact LD.out.bad HLT.out (by rw [HB.out]; have := hq.out; omega) 1 (by decide) (by decide) (by unfold okAt; rw [HL.out]; have h9 := hb1.out; intro h7; have h8 := h7.2.2; rw [h9] at h8; split at h8 <;> omega))
        go_wp2_with fail
        go_ret
        exact ⟨ret_bool HBAD.out.symm, rfl⟩
      have HK1 : Hid (okAt s.data.toList k 160 191 1) := Lib.hid (by unfold okAt; rw [HL.out, hb1.out]; exact ⟨h1, by split <;> omega, by split <;> omega⟩)
      go_wp2_with fail
      rw [rounds_succ]
      by_cases h2 : k + 2 < s.size
      case neg =>
        have HBAD : Hid (R = false) := Lib.hid (by rw [← H.out]; exact LD.out.bad HLT.out (by rw [HB.out]; have := hq.out; omega) 2 (by decide) (by decide) (by unfold okAt; rw [HL.out]; omega))
        go_wp2_with fail
        go_ret
        exact ⟨ret_bool HBAD.out.symm, rfl⟩
      have hb2 := Lib.hid (bt_at s (k + 2) h2)
      by_cases l2 : s[k + 2].toNat < 128
      case pos =>
        have HBAD : Hid (R = false) := Lib.hid (by rw [← H.out]; exact LD.out.bad HLT.out (by rw [HB.out]; have := hq.out; omega) 2 (by decide) (by decide) (by unfold okAt; rw [HL.out]; have h9 := hb2.out; intro h7; have h8 := h7.2.1; rw [h9] at h8; split at h8 <;> omega))
        go_wp2_with fail
        go_ret
        exact ⟨ret_bool HBAD.out.symm, rfl⟩
      by_cases g2 : 191 < s[k + 2].toNat
      case pos =>
        have HBAD : Hid (R = false) := Lib.hid (by rw [← H.out]; exact LD.out.bad HLT.out (by rw [HB.out]; have := hq.out; omega) 2 (by decide) (by decide) (by unfold okAt; rw [HL.out]; have h9 := hb2.out; intro h7; have h8 := h7.2.2; rw [h9] at h8; split at h8 <;> omega))
        go_wp2_with fail
        go_ret
        exact ⟨ret_bool HBAD.out.symm, rfl⟩
      have HK2 : Hid (okAt s.data.toList k 160 191 2) := Lib.hid (by unfold okAt; rw [HL.out, hb2.out]; exact ⟨h2, by split <;> omega, by split <;> omega⟩)
      go_wp2_with fail
      rw [rounds_succ]
      have HV : Hid (Lib.validD (s.data.toList.drop (k + (2 + 1))) = R) := Lib.hid (by rw [← LD.out.good HLT.out (by rw [HB.out]; have := hq.out; omega) (fun u hu0 hu1 => by (rcases (show u = 1 ∨ u = 2 from (by omega)) with rfl | rfl <;> first | exact HK1.out | exact HK2.out))]; exact H.out)
      go_wp2_with fail
      go_roundw
      case rel => exact ⟨k + (2 + 1), by omega, by go_num, HV, trivial⟩
      case measure => simp [RowKit.intOf]; try omega
    -- E1
    by_cases hq : 225 ≤ s[k].toNat ∧ s[k].toNat ≠ 237 ∧ s[k].toNat ≤ 239
    · have hq := Lib.hid hq
      have LD : Hid (Lead (Bt s.data.toList k) 2 128 191) := Lib.hid (by rw [HB.out]; exact lead_E1 _ (by have := hq.out; omega) (by have := hq.out; omega) (by have := hq.out; omega))
      obtain ⟨CI, hCI⟩ : ∃ CI : Int, CI = (s[k].toNat : Int) := ⟨_, rfl⟩
      have hc1 : (225 : Int) ≤ (s[k].toNat : Int) := by have := hq.out; omega
      have hc2 : (s[k].toNat : Int) ≤ 239 := by have := hq.out; omega
      have hc3 : ((s[k].toNat : Int) == 237) = false := by rw [beq_eq_false_iff_ne]; have := hq.out; omega
      have hc4 : (s[k].toNat == 237) = false := by rw [beq_eq_false_iff_ne]; have := hq.out; omega
      clear hCI
      go_wp2_with fail
      refine wp_loop_rounds 3 ?_
      rw [rounds_succ]
      by_cases h1 : k + 1 < s.size
      case neg =>
        have HBAD : Hid (R = false) := Lib.hid (by rw [← H.out]; exact LD.out.bad HLT.out (by rw [HB.out]; have := hq.out; omega) 1 (by decide) (by decide) (by unfold okAt; rw [HL.out]; omega))
        go_wp2_with fail
        go_ret
        exact ⟨ret_bool HBAD.out.symm, rfl⟩
      have hb1 := Lib.hid (bt_at s (k + 1) h1)
      by_cases l1 : s[k + 1].toNat < 128
      case pos =>
        have HBAD : Hid (R = false) := Lib.hid (by rw [← H.out]; exact LD.out.bad HLT.out (by rw [HB.out]; have := hq.out; omega) 1 (by decide) (by decide) (by unfold okAt; rw [HL.out]; have h9 := hb1.out; intro h7; have h8 := h7.2.1; rw [h9] at h8; split at h8 <;> omega))
        go_wp2_with fail
        go_ret
        exact ⟨ret_bool HBAD.out.symm, rfl⟩
      by_cases g1 : 191 < s[k + 1].toNat
      case pos =>
        have HBAD : Hid (R = false) := Lib.hid (by rw [← H.out]; exact LD.out.bad HLT.out (by rw [HB.out]; have := hq.out; omega) 1 (by decide) (by decide) (by unfold okAt; rw [HL.out]; have h9 := hb1.out; intro h7; have h8 := h7.2.2; rw [h9] at h8; split at h8 <;> omega))
        go_wp2_with fail
        go_ret
        exact ⟨ret_bool HBAD.out.symm, rfl⟩
      have HK1 : Hid (okAt s.data.toList k 128 191 1) := Lib.hid (by unfold okAt; rw [HL.out, hb1.out]; exact ⟨h1, by split <;> omega, by split <;> omega⟩)
      go_wp2_with fail
      rw [rounds_succ]
      by_cases h2 : k + 2 < s.size
      case neg =>
        have HBAD : Hid (R = false) := Lib.hid (by rw [← H.out]; exact LD.out.bad HLT.out (by rw [HB.out]; have := hq.out; omega) 2 (by decide) (by decide) (by unfold okAt; rw [HL.out]; omega))
        go_wp2_with fail
        go_ret
        exact ⟨ret_bool HBAD.out.symm, rfl⟩
      have hb2 := Lib.hid (bt_at s (k + 2) h2)
      by_cases l2 : s[k + 2].toNat < 128
      case pos =>
        have HBAD : Hid (R = false) := Lib.hid (by rw [← H.out]; exact LD.out.bad HLT.out (by rw [HB.out]; have := hq.out; omega) 2 (by decide) (by decide) (by unfold okAt; rw [HL.out]; have h9 := hb2.out; intro h7; have h8 := h7.2.1; rw [h9] at h8; split at h8 <;> omega))
        go_wp2_with fail
        go_ret
        exact ⟨ret_bool HBAD.out.symm, rfl⟩
      by_cases g2 : 191 < s[k + 2].toNat
      case pos =>
        have HBAD : Hid (R = false) := Lib.hid (by rw [← H.out]; exact LD.out.bad HLT.out (by rw [HB.out]; have := hq.out; omega) 2 (by decide) (by decide) (by unfold okAt; rw [HL.out]; have h9 := hb2.out; intro h7; have h8 := h7.2.2; rw [h9] at h8; split at h8 <;> omega))
        go_wp2_with fail
        go_ret
        exact ⟨ret_bool HBAD.out.symm, rfl⟩
      have HK2 : Hid (okAt s.data.toList k 128 191 2) := Lib.hid (by unfold okAt; rw [HL.out, hb2.out]; exact ⟨h2, by split <;> omega, by split <;> omega⟩)
      go_wp2_with fail
      rw [rounds_succ]
      have HV : Hid (Lib.validD (s.data.toList.drop (k + (2 + 1))) = R) := Lib.hid (by rw [← LD.out.good HLT.out (by rw [HB.out]; have := hq.out; omega) (fun u hu0 hu1 => by (rcases (show u = 1 ∨ u = 2 from (by omega)) with rfl | rfl <;> first | exact HK1.out | exact HK2.out))]; exact H.out)
      go_wp2_with fail
      go_roundw
      case rel => exact ⟨k + (2 + 1), by omega, by go_num, HV, trivial⟩
      case measure => simp [RowKit.intOf]; try omega
    -- ED
    by_cases hq : s[k].toNat = 237
    · have hq := Lib.hid hq
      have LD : Hid (Lead (Bt s.data.toList k) 2 128 159) := Lib.hid (by have e : Bt s.data.toList k = 237 := HB.out.trans hq.out; rw [e]; exact lead_ED)
      obtain ⟨CI, hCI⟩ : ∃ CI : Int, CI = (s[k].toNat : Int) := ⟨_, rfl⟩
      have hch : (s[k].toNat : Int) = 237 := by have := hq.out; omega
      clear hCI
      go_wp2_with fail
      refine wp_loop_rounds 3 ?_
      rw [rounds_succ]
      by_cases h1 : k + 1 < s.size
      case neg =>
        have HBAD : Hid (R = false) := Lib.hid (by rw [← H.out]; exact LD.out.bad HLT.out (by rw [HB.out]; have := hq.out; omega) 1 (by decide) (by decide) (by unfold okAt; rw [HL.out]; omega))
        go_wp2_with fail
        go_ret
        exact ⟨ret_bool HBAD.out.symm, rfl⟩
      have hb1 := Lib.hid (bt_at s (k + 1) h1)
      by_cases l1 : s[k + 1].toNat < 128
      case pos =>
        have HBAD : Hid (R = false) := Lib.hid (by rw [← H.out]; exact LD.out.bad HLT.out (by rw [HB.out]; have := hq.out; omega) 1 (by decide) (by decide) (by unfold okAt; rw [HL.out]; have h9 := hb1.out; intro h7; have h8 := h7.2.1; rw [h9] at h8; split at h8 <;> omega))
        go_wp2_with fail
        go_ret
        exact ⟨ret_bool HBAD.out.symm, rfl⟩
      by_cases g1 : 159 < s[k + 1].toNat
      case pos =>
        have HBAD : Hid (R = false) := Lib.hid (by rw [← H.out]; exact LD.out.bad HLT.out (by rw [HB.out]; have := hq.out; omega) 1 (by decide) (by decide) (by unfold okAt; rw [HL.out]; have h9 := hb1.out; intro h7; have h8 := h7.2.2; rw [h9] at h8; split at h8 <;> omega))
        go_wp2_with fail
        go_ret
        exact ⟨ret_bool HBAD.out.symm, rfl⟩
      have HK1 : Hid (okAt s.data.toList k 128 159 1) := Lib.hid (by unfold okAt; rw [HL.out, hb1.out]; exact ⟨h1, by split <;> omega, by split <;> omega⟩)
      go_wp2_with fail
      rw [rounds_succ]
      by_cases h2 : k + 2 < s.size
      case neg =>
        have HBAD : Hid (R = false) := Lib.hid (by rw [← H.out]; exact LD.out.bad HLT.out (by rw [HB.out]; have := hq.out; omega) 2 (by decide) (by decide) (by unfold okAt; rw [HL.out]; omega))
        go_wp2_with fail
        go_ret
        exact ⟨ret_bool HBAD.out.symm, rfl⟩
      have hb2 := Lib.hid (bt_at s (k + 2) h2)
      by_cases l2 : s[k + 2].toNat < 128
      case pos =>
        have HBAD : Hid (R = false) := Lib.hid (by rw [← H.out]; exact LD.out.bad HLT.out (by rw [HB.out]; have := hq.out; omega) 2 (by decide) (by decide) (by unfold okAt; rw [HL.out]; have h9 := hb2.out; intro h7; have h8 := h7.2.1; rw [h9] at h8; split at h8 <;> omega))
        go_wp2_with fail
        go_ret
        exact ⟨ret_bool HBAD.out.symm, rfl⟩
      by_cases g2 : 191 < s[k + 2].toNat
      case pos =>
        have HBAD : Hid (R = false) := Lib.hid (by rw [← H.out]; exact LD.out.bad HLT.out (by rw [HB.out]; have := hq.out; omega) 2 (by decide) (by decide) (by unfold okAt; rw [HL.out]; have h9 := hb2.out; intro h7; have h8 := h7.2.2; rw [h9] at h8; split at h8 <;> omega))
        go_wp2_with fail
        go_ret
        exact ⟨ret_bool HBAD.out.symm, rfl⟩
      have HK2 : Hid (okAt s.data.toList k 128 159 2) := Lib.hid (by unfold okAt; rw [HL.out, hb2.out]; exact ⟨h2, by split <;> omega, by split <;> omega⟩)
      go_wp2_with fail
      rw [rounds_succ]
      have HV : Hid (Lib.validD (s.data.toList.drop (k + (2 + 1))) = R) := Lib.hid (by rw [← LD.out.good HLT.out (by rw [HB.out]; have := hq.out; omega) (fun u hu0 hu1 => by (rcases (show u = 1 ∨ u = 2 from (by omega)) with rfl | rfl <;> first | exact HK1.out | exact HK2.out))]; exact H.out)
      go_wp2_with fail
      go_roundw
      case rel => exact ⟨k + (2 + 1), by omega, by go_num, HV, trivial⟩
      case measure => simp [RowKit.intOf]; try omega
    -- F0
    by_cases hq : s[k].toNat = 240
    · have hq := Lib.hid hq
      have LD : Hid (Lead (Bt s.data.toList k) 3 144 191) := Lib.hid (by have e : Bt s.data.toList k = 240 := HB.out.trans hq.out; rw [e]; exact lead_F0)
      obtain ⟨CI, hCI⟩ : ∃ CI : Int, CI = (s[k].toNat : Int) := ⟨_, rfl⟩
      have hch : (s[k].toNat : Int) = 240 := by have := hq.out; omega
      clear hCI
      go_wp2_with fail
      refine wp_loop_rounds 4 ?_
      rw [rounds_succ]
      by_cases h1 : k + 1 < s.size
      case neg =>
        have HBAD : Hid (R = false) := Lib.hid (by rw [← H.out]; exact LD.out.bad HLT.out (by rw [HB.out]; have := hq.out; omega) 1 (by decide) (by decide) (by unfold okAt; rw [HL.out]; omega))
        go_wp2_with fail
        go_ret
        exact ⟨ret_bool HBAD.out.symm, rfl⟩
      have hb1 := Lib.hid (bt_at s (k + 1) h1)
      by_cases l1 : s[k + 1].toNat < 144
      case pos =>
        have HBAD : Hid (R = false) := Lib.hid (by rw [← H.out]; exact LD.out.bad HLT.out (by rw [HB.out]; have := hq.out; omega) 1 (by decide) (by decide) (by unfold okAt; rw [HL.out]; have h9 := hb1.out; intro h7; have h8 := h7.2.1; rw [h9] at h8; split at h8 <;> omega))
        go_wp2_with fail
        go_ret
        exact ⟨ret_bool HBAD.out.symm, rfl⟩
      by_cases g1 : 191 < s[k + 1].toNat
      case pos =>
        have HBAD : Hid (R = false) := Lib.hid (by rw [← H.out]; exact LD.out.bad HLT.out (by rw [HB.out]; have := hq.out; omega) 1 (by decide) (by decide) (by unfold okAt; rw [HL.out]; have h9 := hb1.out; intro h7; have h8 := h7.2.2; rw [h9] at h8; split at h8 <;> omega))
        go_wp2_with fail
        go_ret
        exact ⟨ret_bool HBAD.out.symm, rfl⟩
      have HK1 : Hid (okAt s.data.toList k 144 191 1) := Lib.hid (by unfold okAt; rw [HL.out, hb1.out]; exact ⟨h1, by split <;> omega, by split <;> omega⟩)
      go_wp2_with fail
      rw [rounds_succ]
      by_cases h2 : k + 2 < s.size
      case neg =>
        have HBAD : Hid (R = false) := Lib.hid (by rw [← H.out]; exact LD.out.bad HLT.out (by rw [HB.out]; have := hq.out; omega) 2 (by decide) (by decide) (by unfold okAt; rw [HL.out]; omega))
        go_wp2_with fail
        go_ret
        exact ⟨ret_bool HBAD.out.symm, rfl⟩
      have hb2 := Lib.hid (bt_at s (k + 2) h2)
      by_cases l2 : s[k + 2].toNat < 128
      case pos =>
        have HBAD : Hid (R = false) := Lib.hid (by rw [← H.out]; exact LD.out.bad HLT.out (by rw [HB.out]; have := hq.out; omega) 2 (by decide) (by decide) (by unfold okAt; rw [HL.out]; have h9 := hb2.out; intro h7; have h8 := h7.2.1; rw [h9] at h8; split at h8 <;> omega))
        go_wp2_with fail
        go_ret
        exact ⟨ret_bool HBAD.out.symm, rfl⟩
      by_cases g2 : 191 < s[k + 2].toNat
      case pos =>
        have HBAD : Hid (R = false) := Lib.hid (by rw [← H.out]; exact LD.out.bad HLT.out (by rw [HB.out]; have := hq.out; omega) 2 (by decide) (by decide) (by unfold okAt; rw [HL.out]; have h9 := hb2.out; intro h7; have h8 := h7.2.2; rw [h9] at h8; split at h8 <;> omega))
        go_wp2_with fail
        go_ret
        exact ⟨ret_bool HBAD.out.symm, rfl⟩
      have HK2 : Hid (okAt s.data.toList k 144 191 2) := Lib.hid (by unfold okAt; rw [HL.out, hb2.out]; exact ⟨h2, by split <;> omega, by split <;> omega⟩)
      go_wp2_with fail
      rw [rounds_succ]
      by_cases h3 : k + 3 < s.size
      case neg =>
        have HBAD : Hid (R = false) := Lib.hid (by rw [← H.out]; exact LD.out.bad HLT.out (by rw [HB.out]; have := hq.out; omega) 3 (by decide) (by decide) (by unfold okAt; rw [HL.out]; omega))
        go_wp2_with fail
        go_ret
        exact ⟨ret_bool HBAD.out.symm, rfl⟩
      have hb3 := Lib.hid (bt_at s (k + 3) h3)
      by_cases l3 : s[k + 3].toNat < 128
      case pos =>
        have HBAD : Hid (R = false) := Lib.hid (by rw [← H.out]; exact LD.out.bad HLT.out (by rw [HB.out]; have := hq.out; omega) 3 (by decide) (by decide) (by unfold okAt; rw [HL.out]; have h9 := hb3.out; intro h7; have h8 := h7.2.1; rw [h9] at h8; split at h8 <;> omega))
        go_wp2_with fail
        go_ret
        exact ⟨ret_bool HBAD.out.symm, rfl⟩
      by_cases g3 : 191 < s[k + 3].toNat
      case pos =>
        have HBAD : Hid (R = false) := Lib.hid (by rw [← H.out]; exact LD.out.bad HLT.out (by rw [HB.out]; have := hq.out; omega) 3 (by decide) (by decide) (by unfold okAt; rw [HL.out]; have h9 := hb3.out; intro h7; have h8 := h7.2.2; rw [h9] at h8; split at h8 <;> omega))
        go_wp2_with fail
        go_ret
        exact ⟨ret_bool HBAD.out.symm, rfl⟩
      have HK3 : Hid (okAt s.data.toList k 144 191 3) := Lib.hid (by unfold okAt; rw [HL.out, hb3.out]; exact ⟨h3, by split <;> omega, by split <;> omega⟩)
      go_wp2_with fail
      rw [rounds_succ]
      have HV : Hid (Lib.validD (s.data.toList.drop (k + (3 + 1))) = R) := Lib.hid (by rw [← LD.out.good HLT.out (by rw [HB.out]; have := hq.out; omega) (fun u hu0 hu1 => by (rcases (show u = 1 ∨ u = 2 ∨ u = 3 from (by omega)) with rfl | rfl | rfl <;> first | exact HK1.out | exact HK2.out | exact HK3.out))]; exact H.out)
      go_wp2_with fail
      go_roundw
      case rel => exact ⟨k + (3 + 1), by omega, by go_num, HV, trivial⟩
      case measure => simp [RowKit.intOf]; try omega
    -- F1
    by_cases hq : 241 ≤ s[k].toNat ∧ s[k].toNat ≤ 243
    · have hq := Lib.hid hq
      have LD : Hid (Lead (Bt s.data.toList k) 3 128 191) := Lib.hid (by rw [HB.out]; exact lead_F1 _ (by have := hq.out; omega) (by have := hq.out; omega))
      obtain ⟨CI, hCI⟩ : ∃ CI : Int, CI = (s[k].toNat : Int) := ⟨_, rfl⟩
      have hc1 : (241 : Int) ≤ (s[k].toNat : Int) := by have := hq.out; omega
      have hc2 : (s[k].toNat : Int) ≤ 243 := by have := hq.out; omega
      clear hCI
      go_wp2_with fail
      refine wp_loop_rounds 4 ?_
      rw [rounds_succ]
      by_cases h1 : k + 1 < s.size
      case neg =>
        have HBAD : Hid (R = false) := Lib.hid (by rw [← H.out]; exact LD.out.bad HLT.out (by rw [HB.out]; have := hq.out; omega) 1 (by decide) (by decide) (by unfold okAt; rw [HL.out]; omega))
        go_wp2_with fail
        go_ret
        exact ⟨ret_bool HBAD.out.symm, rfl⟩
      have hb1 := Lib.hid (bt_at s (k + 1) h1)
      by_cases l1 : s[k + 1].toNat < 128
      case pos =>
        have HBAD : Hid (R = false) := Lib.hid (by rw [← H.out]; exact LD.out.bad HLT.out (by rw [HB.out]; have := hq.out; omega) 1 (by decide) (by decide) (by unfold okAt; rw [HL.out]; have h9 := hb1.out; intro h7; have h8 := h7.2.1; rw [h9] at h8; split at h8 <;> omega))
        go_wp2_with fail
        go_ret
        exact ⟨ret_bool HBAD.out.symm, rfl⟩
      by_cases g1 : 191 < s[k + 1].toNat
      case pos =>
        have HBAD : Hid (R = false) := Lib.hid (by rw [← H.out]; exact LD.out.bad HLT.out (by rw [HB.out]; have := hq.out; omega) 1 (by decide) (by decide) (by unfold okAt; rw [HL.out]; have h9 := hb1.out; intro h7; have h8 := h7.2.2; rw [h9] at h8; split at h8 <;> omega))
        go_wp2_with fail
        go_ret
        exact ⟨ret_bool HBAD.out.symm, rfl⟩
      have HK1 : Hid (okAt s.data.toList k 128 191 1) := Lib.hid (by unfold okAt; rw [HL.out, hb1.out]; exact ⟨h1, by split <;> omega, by split <;> omega⟩)
      go_wp2_with fail
      rw [rounds_succ]
      by_cases h2 : k + 2 < s.size
      case neg =>
        have HBAD : Hid (R = false) := Lib.hid (by rw [← H.out]; exact LD.out.bad HLT.out (by rw [HB.out]; have := hq.out; omega) 2 (by decide) (by decide) (by unfold okAt; rw [HL.out]; omega))
        go_wp2_with fail
        go_ret
        exact ⟨ret_bool HBAD.out.symm, rfl⟩
      have hb2 := Lib.hid (bt_at s (k + 2) h2)
      by_cases l2 : s[k + 2].toNat < 128
      case pos =>
        have HBAD : Hid (R = false) := Lib.hid (by rw [← H.out]; exact LD.out.bad HLT.out (by rw [HB.out]; have := hq.out; omega) 2 (by decide) (by decide) (by unfold okAt; rw [HL.out]; have h9 := hb2.out; intro h7; have h8 := h7.2.1; rw [h9] at h8; split at h8 <;> omega))
        go_wp2_with fail
        go_ret
        exact ⟨ret_bool HBAD.out.symm, rfl⟩
      by_cases g2 : 191 < s[k + 2].toNat
      case pos =>
        have HBAD : Hid (R = false) := Lib.hid (by rw [← H.out]; exact LD.out.bad HLT.out (by rw [HB.out]; have := hq.out; omega) 2 (by decide) (by decide) (by unfold okAt; rw [HL.out]; have h9 := hb2.out; intro h7; have h8 := h7.2.2; rw [h9] at h8; split at h8 <;> omega))
        go_wp2_with fail
        go_ret
        exact ⟨ret_bool HBAD.out.symm, rfl⟩
      have HK2 : Hid (okAt s.data.toList k 128 191 2) := Lib.hid (by unfold okAt; rw [HL.out, hb2.out]; exact ⟨h2, by split <;> omega, by split <;> omega⟩)
      go_wp2_with fail
      rw [rounds_succ]
      by_cases h3 : k + 3 < s.size
      case neg =>
        have HBAD : Hid (R = false) := Lib.hid (by rw [← H.out]; exact LD.out.bad HLT.out (by rw [HB.out]; have := hq.out; omega) 3 (by decide) (by decide) (by unfold okAt; rw [HL.out]; omega))
        go_wp2_with fail
        go_ret
        exact ⟨ret_bool HBAD.out.symm, rfl⟩
      have hb3 := Lib.hid (bt_at s (k + 3) h3)
      by_cases l3 : s[k + 3].toNat < 128
      case pos =>
        have HBAD : Hid (R = false) := Lib.hid (by rw [← H.out]; exact LD.out.bad HLT.out (by rw [HB.out]; have := hq.out; omega) 3 (by decide) (by decide) (by unfold okAt; rw [HL.out]; have h9 := hb3.out; intro h7; have h8 := h7.2.1; rw [h9] at h8; split at h8 <;> omega))
        go_wp2_with fail
        go_ret
        exact ⟨ret_bool HBAD.out.symm, rfl⟩
      by_cases g3 : 191 < s[k + 3].toNat
      case pos =>
        have HBAD : Hid (R = false) := Lib.hid (by rw [← H.out]; exact LD.out.bad HLT.out (by rw [HB.out]; have := hq.out; omega) 3 (by decide) (by decide) (by unfold okAt; rw [HL.out]; have h9 := hb3.out; intro h7; have h8 := h7.2.2; rw [h9] at h8; split at h8 <;> omega))
        go_wp2_with fail
        go_ret
        exact ⟨ret_bool HBAD.out.symm, rfl⟩
      have HK3 : Hid (okAt s.data.toList k 128 191 3) := Lib.hid (by unfold okAt; rw [HL.out, hb3.out]; exact ⟨h3, by split <;> omega, by split <;> omega⟩)
      go_wp2_with fail
      rw [rounds_succ]
      have HV : Hid (Lib.validD (s.data.toList.drop (k + (3 + 1))) = R) := Lib.hid (by rw [← LD.out.good HLT.out (by rw [HB.out]; have := hq.out; omega) (fun u hu0 hu1 => by (rcases (show u = 1 ∨ u = 2 ∨ u = 3 from (by omega)) with rfl | rfl | rfl <;> first | exact HK1.out | exact HK2.out | exact HK3.out))]; exact H.out)
      go_wp2_with fail
      go_roundw
      case rel => exact ⟨k + (3 + 1), by omega, by go_num, HV, trivial⟩
      case measure => simp [RowKit.intOf]; try omega
    -- F4
    by_cases hq : s[k].toNat = 244
    · have hq := Lib.hid hq
      have LD : Hid (Lead (Bt s.data.toList k) 3 128 143) := Lib.hid (by have e : Bt s.data.toList k = 244 := HB.out.trans hq.out; rw [e]; exact lead_F4)
      obtain ⟨CI, hCI⟩ : ∃ CI : Int, CI = (s[k].toNat : Int) := ⟨_, rfl⟩
      have hch : (s[k].toNat : Int) = 244 := by have := hq.out; omega
      clear hCI
      go_wp2_with fail
      refine wp_loop_rounds 4 ?_
      rw [rounds_succ]
      by_cases h1 : k + 1 < s.size
      case neg =>
        have HBAD : Hid (R = false) := Lib.hid (by rw [← H.out]; exact LD.out.bad HLT.out (by rw [HB.out]; have := hq.out; omega) 1 (by decide) (by decide) (by unfold okAt; rw [HL.out]; omega))
        go_wp2_with fail
        go_ret
        exact ⟨ret_bool HBAD.out.symm, rfl⟩
      have hb1 := Lib.hid (bt_at s (k + 1) h1)
      by_cases l1 : s[k + 1].toNat < 128
      case pos =>
        have HBAD : Hid (R = false) := Lib.hid (by rw [← H.out]; exact LD.out.bad HLT.out (by rw [HB.out]; have := hq.out; omega) 1 (by decide) (by decide) (by unfold okAt; rw [HL.out]; have h9 := hb1.out; intro h7; have h8 := h7.2.1; rw [h9] at h8; split at h8 <;> omega))
        go_wp2_with fail
        go_ret
        exact ⟨ret_bool HBAD.out.symm, rfl⟩
      by_cases g1 : 143 < s[k + 1].toNat
      case pos =>
        have HBAD : Hid (R = false) := Lib.hid (by rw [← H.out]; exact LD.out.bad HLT.out (by rw [HB.out]; have := hq.out; omega) 1 (by decide) (by decide) (by unfold okAt; rw [HL.out]; have h9 := hb1.out; intro h7; have h8 := h7.2.2; rw [h9] at h8; split at h8 <;> omega))
        go_wp2_with fail
        go_ret
        exact ⟨ret_bool HBAD.out.symm, rfl⟩
      have HK1 : Hid (okAt s.data.toList k 128 143 1) := Lib.hid (by unfold okAt; rw [HL.out, hb1.out]; exact ⟨h1, by split <;> omega, by split <;> omega⟩)
      go_wp2_with fail
      rw [rounds_succ]
      by_cases h2 : k + 2 < s.size
      case neg =>
        have HBAD : Hid (R = false) := Lib.hid (by rw [← H.out]; exact LD.out.bad HLT.out (by rw [HB.out]; have := hq.out; omega) 2 (by decide) (by decide) (by unfold okAt; rw [HL.out]; omega))
        go_wp2_with fail
        go_ret
        exact ⟨ret_bool HBAD.out.symm, rfl⟩
      have hb2 := Lib.hid (bt_at s (k + 2) h2)
      by_cases l2 : s[k + 2].toNat < 128
      case pos =>
        have HBAD : Hid (R = false) := Lib.hid (by rw [← H.out]; exact LD.out.bad HLT.out (by rw [HB.out]; have := hq.out; omega) 2 (by decide) (by decide) (by unfold okAt; rw [HL.out]; have h9 := hb2.out; intro h7; have h8 := h7.2.1; rw [h9] at h8; split at h8 <;> omega))
        go_wp2_with fail
        go_ret
        exact ⟨ret_bool HBAD.out.symm, rfl⟩
      by_cases g2 : 191 < s[k + 2].toNat
      case pos =>
        have HBAD : Hid (R = false) := Lib.hid (by rw [← H.out]; exact LD.out.bad HLT.out (by rw [HB.out]; have := hq.out; omega) 2 (by decide) (by decide) (by unfold okAt; rw [HL.out]; have h9 := hb2.out; intro h7; have h8 := h7.2.2; rw [h9] at h8; split at h8 <;> omega))
        go_wp2_with fail
        go_ret
        exact ⟨ret_bool HBAD.out.symm, rfl⟩
      have HK2 : Hid (okAt s.data.toList k 128 143 2) := Lib.hid (by unfold okAt; rw [HL.out, hb2.out]; exact ⟨h2, by split <;> omega, by split <;> omega⟩)
      go_wp2_with fail
      rw [rounds_succ]
      by_cases h3 : k + 3 < s.size
      case neg =>
        have HBAD : Hid (R = false) := Lib.hid (by rw [← H.out]; exact LD.out.bad HLT.out (by rw [HB.out]; have := hq.out; omega) 3 (by decide) (by decide) (by unfold okAt; rw [HL.out]; omega))
        go_wp2_with fail
        go_ret
        exact ⟨ret_bool HBAD.out.symm, rfl⟩
      have hb3 := Lib.hid (bt_at s (k + 3) h3)
      by_cases l3 : s[k + 3].toNat < 128
      case pos =>
        have HBAD : Hid (R = false) := Lib.hid (by rw [← H.out]; exact LD.out.bad HLT.out (by rw [HB.out]; have := hq.out; omega) 3 (by decide) (by decide) (by unfold okAt; rw [HL.out]; have h9 := hb3.out; intro h7; have h8 := h7.2.1; rw [h9] at h8; split at h8 <;> omega))
        go_wp2_with fail
        go_ret
        exact ⟨ret_bool HBAD.out.symm, rfl⟩
      by_cases g3 : 191 < s[k + 3].toNat
      case pos =>
        have HBAD : Hid (R = false) := Lib.hid (by rw [← H.out]; exact LD.out.bad HLT.out (by rw [HB.out]; have := hq.out; omega) 3 (by decide) (by decide) (by unfold okAt; rw [HL.out]; have h9 := hb3.out; intro h7; have h8 := h7.2.2; rw [h9] at h8; split at h8 <;> omega))
        go_wp2_with fail
        go_ret
        exact ⟨ret_bool HBAD.out.symm, rfl⟩
      have HK3 : Hid (okAt s.data.toList k 128 143 3) := Lib.hid (by unfold okAt; rw [HL.out, hb3.out]; exact ⟨h3, by split <;> omega, by split <;> omega⟩)
      go_wp2_with fail
      rw [rounds_succ]
      have HV : Hid (Lib.validD (s.data.toList.drop (k + (3 + 1))) = R) := Lib.hid (by rw [← LD.out.good HLT.out (by rw [HB.out]; have := hq.out; omega) (fun u hu0 hu1 => by (rcases (show u = 1 ∨ u = 2 ∨ u = 3 from (by omega)) with rfl | rfl | rfl <;> first | exact HK1.out | exact HK2.out | exact HK3.out))]; exact H.out)
      go_wp2_with fail
      go_roundw
      case rel => exact ⟨k + (3 + 1), by omega, by go_num, HV, trivial⟩
      case measure => simp [RowKit.intOf]; try omega
    have HBAD : Hid (R = false) := Lib.hid (by rw [← H.out]; exact v_no _ _ HLT.out (by rw [HB.out]; omega))
    rcases (show s[k].toNat ≤ 193 ∨ 245 ≤ s[k].toNat by omega) with hz | hz
    · have hz1 : (128 : Int) ≤ (s[k].toNat : Int) := by omega
      have hz2 : (s[k].toNat : Int) ≤ 193 := by omega
      go_wp2_with fail
      go_ret
      exact ⟨ret_bool HBAD.out.symm, rfl⟩
    · have hz1 : (245 : Int) ≤ (s[k].toNat : Int) := by omega
      go_wp2_with fail
      go_ret
      exact ⟨ret_bool HBAD.out.symm, rfl⟩
end Go.Proofs.YtaaogjhaokaggaaGreatDoor
