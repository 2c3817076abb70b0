import Derived.Test.YtaaogjhaokaggaaGreatDoorLawA
import Derived.Test.YtaaogjhaokaggaaGreatDoorProg
import Derived.Lib.ValidLaws
import Derived.Deep.AppendSrc
import Derived.Deep.DeepCutAuto
import Derived.Deep.RegionHeld3
import Derived.Deep.RegionWith
import Derived.Laws.CopyOwn
import Derived.Laws.IdiomStrings
import Derived.Lib.AppendIntMem
import Derived.Lib.BufferRead
import Derived.Lib.Hide
import Derived.Lib.OthersKept
import Derived.Lib.ValidU
import Derived.Outline
import Derived.Shelf.Bits.Mul64
import Derived.Shelf.Bytes.SlEqualAll
import Derived.Shelf.Bytes.Small
import Derived.Shelf.LaysM
import Derived.Shelf.Small.Utf8
import Derived.Shelf.Small.Wraps
import Derived.Shelf.Strconv.AppendUint10
import Derived.Shelf.Strconv.Itoa0
import Derived.Shelf.Strconv.Itoa1
import Derived.Shelf.Strconv.Itoa2
import Derived.Shelf.Strconv.Itoa3
import Derived.Shelf.Strconv.Itoa4
import Derived.Shelf.Strings.Prefix
import Derived.Shelf.Unicode.DecodeSlow
import Derived.WalkKit
import Derived.WalkLawsBesides
import Derived.WalkSpells
import GoSem.PinnedTables
namespace Go.Proofs.YtaaogjhaokaggaaGreatDoor
open Go.RowKit Go.Lib

def Bt (l : List UInt8) (i : Nat) : Nat := (l.getD i 0).toNat
/-- The t-th byte behind a lead byte at i is one that may stand there. -/
def okAt (l : List UInt8) (i lo hi t : Nat) : Prop := i + t < l.length ∧ (if t = 1 then lo else 128) ≤ Bt l (i + t) ∧ Bt l (i + t) ≤ (if t = 1 then hi else 191)
theorem v_cons (l : List UInt8) (i : Nat) (h : i < l.length) (hc : Bt l i < 128) : validD (l.drop i) = validD (l.drop (i + 1)) := by
  rw [List.drop_eq_getElem_cons h]
  refine validD_cons _ _ ?_
  unfold Bt at hc
  rw [List.getD_eq_getElem?_getD, List.getElem?_eq_getElem h] at hc
  exact hc
theorem v_lead (l : List UInt8) (i : Nat) (h : i < l.length) (h128 : 128 ≤ Bt l i) : validD (l.drop i) = match checkN (l.length - i) (Bt l (i + 1)) (Bt l (i + 2)) (Bt l (i + 3)) (firstT (Bt l i) % 8) (accLo (firstT (Bt l i) / 16)) (accHi (firstT (Bt l i) / 16)) with
    | none => false
    | some k => validD (l.drop (i + k)) := by
  have hne : l.drop i ≠ [] := by
    intro e
    have := congrArg List.length e
    simp at this
    omega
  have hg : ∀ j, ((l.drop i).getD j 0) = l.getD (i + j) 0 := fun j => by simp [List.getD_eq_getElem?_getD]
  have := validD_lead (l.drop i) hne (by rw [hg]; exact h128)
  simp only [hg, List.length_drop, List.drop_drop, Nat.add_zero] at this
  rw [this]
  simp only [Bt]
  rfl
theorem v_good (l : List UInt8) (i n lo hi : Nat) (h : i < l.length) (h128 : 128 ≤ Bt l i) (hn : n = 1 ∨ n = 2 ∨ n = 3) (e1 : firstT (Bt l i) % 8 = n + 1) (e2 : accLo (firstT (Bt l i) / 16) = lo) (e3 : accHi (firstT (Bt l i) / 16) = hi)
    (hok : ∀ t, 1 ≤ t → t ≤ n → okAt l i lo hi t) : validD (l.drop i) = validD (l.drop (i + (n + 1))) := by
  rw [v_lead l i h h128, e1, e2, e3]
  unfold okAt at hok
  have h1 := hok 1 (by omega) (by omega)
  simp only [if_true] at h1
  rcases hn with rfl | rfl | rfl
  · simp only [checkN, if_true]
    rw [if_neg (by omega)]
  · have h2 := hok 2 (by omega) (by omega)
    simp only [show (2 : Nat) ≠ 1 by decide, if_false] at h2
    simp only [checkN, show (2 + 1 : Nat) ≠ 2 by decide, if_false, if_true]
    rw [if_neg (by omega)]
  · have h2 := hok 2 (by omega) (by omega)
    have h3 := hok 3 (by omega) (by omega)
    simp only [show (2 : Nat) ≠ 1 by decide, show (3 : Nat) ≠ 1 by decide, if_false] at h2 h3
    simp only [checkN, show (3 + 1 : Nat) ≠ 2 by decide, show (3 + 1 : Nat) ≠ 3 by decide, if_false, if_true]
    rw [if_neg (by omega)]
theorem v_bad (l : List UInt8) (i n lo hi t : Nat) (h : i < l.length) (h128 : 128 ≤ Bt l i) (hn : n = 1 ∨ n = 2 ∨ n = 3) (e1 : firstT (Bt l i) % 8 = n + 1) (e2 : accLo (firstT (Bt l i) / 16) = lo) (e3 : accHi (firstT (Bt l i) / 16) = hi)
    (ht0 : 1 ≤ t) (ht1 : t ≤ n) (hb : ¬ okAt l i lo hi t) : validD (l.drop i) = false := by
  rw [v_lead l i h h128, e1, e2, e3]
  unfold okAt at hb
  rcases hn with rfl | rfl | rfl
  · have : t = 1 := by omega
    subst this
    simp only [if_true] at hb
    simp only [checkN, if_true]
    rw [if_pos (by omega)]
  · rcases (show t = 1 ∨ t = 2 by omega) with rfl | rfl
    · simp only [if_true] at hb
      simp only [checkN, show (2 + 1 : Nat) ≠ 2 by decide, if_false, if_true]
      rw [if_pos (by omega)]
    · simp only [show (2 : Nat) ≠ 1 by decide, if_false] at hb
      simp only [checkN, show (2 + 1 : Nat) ≠ 2 by decide, if_false, if_true]
      rw [if_pos (by omega)]
  · rcases (show t = 1 ∨ t = 2 ∨ t = 3 by omega) with rfl | rfl | rfl
    · simp only [if_true] at hb
      simp only [checkN, show (3 + 1 : Nat) ≠ 2 by decide, show (3 + 1 : Nat) ≠ 3 by decide, if_false, if_true]
      rw [if_pos (by omega)]
    · simp only [show (2 : Nat) ≠ 1 by decide, if_false] at hb
      simp only [checkN, show (3 + 1 : Nat) ≠ 2 by decide, show (3 + 1 : Nat) ≠ 3 by decide, if_false, if_true]
      rw [if_pos (by omega)]
    · simp only [show (3 : Nat) ≠ 1 by decide, if_false] at hb
      simp only [checkN, show (3 + 1 : Nat) ≠ 2 by decide, show (3 + 1 : Nat) ≠ 3 by decide, if_false, if_true]
      rw [if_pos (by omega)]
theorem v_no (l : List UInt8) (i : Nat) (h : i < l.length) (hb : (128 ≤ Bt l i ∧ Bt l i < 194) ∨ 245 ≤ Bt l i) : validD (l.drop i) = false := by
  rw [v_lead l i h (by omega)]
  have e : firstT (Bt l i) = 241 := by
    unfold firstT
    rcases hb with hb | hb
    · rw [if_neg (by omega), if_pos (by omega)]
    · rw [if_neg (by omega), if_neg (by omega), if_neg (by omega), if_neg (by omega), if_neg (by omega), if_neg (by omega), if_neg (by omega), if_neg (by omega), if_neg (by omega), if_neg (by omega)]
  rw [e]
  rfl
/-- A class of lead bytes. -/
structure Lead (c n lo hi : Nat) : Prop where
  n3 : n = 1 ∨ n = 2 ∨ n = 3
  e1 : firstT c % 8 = n + 1
  e2 : accLo (firstT c / 16) = lo
  e3 : accHi (firstT c / 16) = hi
theorem lead_C2 (c : Nat) (h0 : 194 ≤ c) (h1 : c ≤ 223) : Lead c 1 128 191 := by
  have e : firstT c = 2 := by unfold firstT; rw [if_neg (by omega), if_neg (by omega), if_pos (by omega)]
  exact ⟨.inl rfl, by rw [e], by rw [e]; rfl, by rw [e]; rfl⟩
theorem lead_E0 : Lead 224 2 160 191 := ⟨.inr (.inl rfl), rfl, rfl, rfl⟩
theorem lead_ED : Lead 237 2 128 159 := ⟨.inr (.inl rfl), rfl, rfl, rfl⟩
theorem lead_F0 : Lead 240 3 144 191 := ⟨.inr (.inr rfl), rfl, rfl, rfl⟩
theorem lead_F4 : Lead 244 3 128 143 := ⟨.inr (.inr rfl), rfl, rfl, rfl⟩
theorem lead_E1 (c : Nat) (h0 : 225 ≤ c) (h1 : c ≤ 239) (h2 : c ≠ 237) : Lead c 2 128 191 := by
  have e : firstT c = 3 := by
    unfold firstT
    rw [if_neg (by omega), if_neg (by omega), if_neg (by omega), if_neg (by omega)]
    split
    · rfl
    · first | rw [if_pos (by omega)] | rw [if_neg (by omega), if_pos (by omega)]
  exact ⟨.inr (.inl rfl), by rw [e], by rw [e]; rfl, by rw [e]; rfl⟩
theorem lead_F1 (c : Nat) (h0 : 241 ≤ c) (h1 : c ≤ 243) : Lead c 3 128 191 := by
  have e : firstT c = 4 := by
    unfold firstT
    rw [if_neg (by omega), if_neg (by omega), if_neg (by omega), if_neg (by omega), if_neg (by omega), if_neg (by omega), if_neg (by omega), if_neg (by omega), if_pos (by omega)]
  exact ⟨.inr (.inr rfl), by rw [e], by rw [e]; rfl, by rw [e]; rfl⟩
theorem Lead.good {l : List UInt8} {i n lo hi : Nat} (L : Lead (Bt l i) n lo hi) (h : i < l.length) (h128 : 128 ≤ Bt l i) (hok : ∀ t, 1 ≤ t → t ≤ n → okAt l i lo hi t) : validD (l.drop i) = validD (l.drop (i + (n + 1))) :=
  v_good l i n lo hi h h128 L.n3 L.e1 L.e2 L.e3 hok
theorem Lead.bad {l : List UInt8} {i n lo hi : Nat} (L : Lead (Bt l i) n lo hi) (h : i < l.length) (h128 : 128 ≤ Bt l i) (t : Nat) (ht0 : 1 ≤ t) (ht1 : t ≤ n) (hb : ¬ okAt l i lo hi t) : validD (l.drop i) = false :=
  v_bad l i n lo hi t h h128 L.n3 L.e1 L.e2 L.e3 ht0 ht1 hb
end Go.Proofs.YtaaogjhaokaggaaGreatDoor
namespace Go.Proofs.YtaaogjhaokaggaaGreatDoor
open Go.RowKit

theorem bt_at (s : ByteArray) (k : Nat) (h : k < s.size) : Bt s.data.toList k = s[k].toNat := by
  unfold Bt
  rw [List.getD_eq_getElem?_getD, Array.getElem?_toList]
  have : s.data[k]? = some s[k] := Array.getElem?_eq_getElem h
  rw [this]
  rfl

set_option maxRecDepth 100000 in
set_option maxHeartbeats 8000000 in
theorem specUtf8_any (s : ByteArray) (hs : s.size ≤ 1000000000) (w : World) :
    Calls Tryz.prog 33 #[.string s] w fun e w' => e = .returned (.bool (Lib.validD s.data.toList)) ∧ w' = w := by
  obtain ⟨R, hR⟩ : ∃ R, R = Lib.validD s.data.toList := ⟨_, rfl⟩
  have HR := Lib.hid hR
  rw [← hR]; clear hR
  have HL : Hid (s.data.toList.length = s.size) := Lib.hid (by simp)
  go_enter Tryz.func33, Tryz.ntmps33
  go_wp2_with fail
  go_loopw [3] (fun i wr => ∃ k : Nat, k ≤ s.size ∧ i = .int .i64 k ∧ Hid (Lib.validD (s.data.toList.drop k) = R) ∧ wr = w) (fun i _ => s.size - (RowKit.intOf i).toNat)
  case atStart => exact ⟨0, by omega, rfl, Lib.hid (by rw [HR.out]; rfl), rfl⟩
  case round =>
    obtain ⟨k, hk, rfl, H, rfl⟩ := hrel
    by_cases hlt : k < s.size
    case neg =>
      go_wp2_with fail
      go_ret
      have : k = s.size := by omega
      refine ⟨ret_bool ?_, rfl⟩
      rw [← H.out, List.drop_eq_nil_of_le (by rw [HL.out]; omega)]
      rfl
    have hb := bt_at s k hlt
    have HB := Lib.hid hb; clear hb
    have hlt2 : k < s.data.toList.length := by rw [HL.out]; exact hlt
    have HLT := Lib.hid hlt2; clear hlt2
    by_cases hc : s[k].toNat < 128
    · have hci : (s[k].toNat : Int) < 128 := by omega
      have HV : Hid (Lib.validD (s.data.toList.drop (k + 1)) = R) := Lib.hid (by rw [← v_cons _ _ HLT.out (by rw [HB.out]; exact hc)]; exact H.out)
      go_wp2_with fail
      refine wp_loop_rounds 1 ?_
      rw [rounds_succ]
      go_wp2_with fail
      go_roundw
      case rel => exact ⟨k + 1, by omega, by go_num, HV, trivial⟩
      case measure => simp [RowKit.intOf]; omega

    -- C2
    by_cases hq : 194 ≤ s[k].toNat ∧ s[k].toNat ≤ 223
    · have hq := Lib.hid hq
      have LD : Hid (Lead (Bt s.data.toList k) 1 128 191) := Lib.hid (by rw [HB.out]; exact lead_C2 _ (by have := hq.out; omega) (by have := hq.out; omega))
      obtain ⟨CI, hCI⟩ : ∃ CI : Int, CI = (s[k].toNat : Int) := ⟨_, rfl⟩
      have hc1 : (194 : Int) ≤ (s[k].toNat : Int) := by have := hq.out; omega
      have hc2 : (s[k].toNat : Int) ≤ 223 := by have := hq.out; omega
      clear hCI
      go_wp2_with fail
      refine wp_loop_rounds 2 ?_
      rw [rounds_succ]
      by_cases h1 : k + 1 < s.size
      case neg =>
        have HBAD : Hid (R = false) := Lib.hid (by rw [← H.out]; exact LD.out.bad HLT.out (by rw [HB.out]; have := hq.out; omega) 1 (by decide) (by decide) (by unfold okAt; rw [HL.out]; omega))
        go_wp2_with fail
        go_ret
        exact ⟨ret_bool HBAD.out.symm, rfl⟩
      have hb1 := Lib.hid (bt_at s (k + 1) h1)
      by_cases l1 : s[k + 1].toNat < 128
      case pos =>
        have HBAD : Hid (R = false) := Lib.hid (by rw [← H.out]; exact LD.out.bad HLT.out (by rw [HB.out]; have := hq.out; omega) 1 (by decide) (by decide) (by unfold okAt; rw [HL.out]; have h9 := hb1.out; intro h7; have h8 := h7.2.1; rw [h9] at h8; split at h8 <;> omega))
        go_wp2_with fail
        go_ret
        exact ⟨ret_bool HBAD.out.symm, rfl⟩
      by_cases g1 : 191 < s[k + 1].toNat
      case pos =>
        have HBAD : Hid (R = false) := Lib.hid (by rw [← H.out]; exact LD.out.bad HLT.out (by rw [HB.out]; have := hq.out; omega) 1 (by decide) (by decide) (by unfold okAt; rw [HL.out]; have h9 := hb1.out; intro h7; have h8 := h7.2.2; rw [h9] at h8; split at h8 <;> omega))
        go_wp2_with fail
        go_ret
        exact ⟨ret_bool HBAD.out.symm, rfl⟩
      have HK1 : Hid (okAt s.data.toList k 128 191 1) := Lib.hid (by unfold okAt; rw [HL.out, hb1.out]; exact ⟨h1, by split <;> omega, by split <;> omega⟩)
      go_wp2_with fail
      rw [rounds_succ]
      have HV : Hid (Lib.validD (s.data.toList.drop (k + (1 + 1))) = R) := Lib.hid (by rw [← LD.out.good HLT.out (by rw [HB.out]; have := hq.out; omega) (fun u hu0 hu1 => by (rcases (show u = 1 from (by omega)) with rfl <;> first | exact HK1.out))]; exact H.out)
      go_wp2_with fail
      go_roundw
      case rel => exact ⟨k + (1 + 1), by omega, by go_num, HV, trivial⟩
      case measure => simp [RowKit.intOf]; try omega
    -- E0
    by_cases hq : s[k].toNat = 224
    · have hq := Lib.hid hq
      have LD : Hid (Lead (Bt s.data.toList k) 2 160 191) := Lib.hid (by have e : Bt s.data.toList k = 224 := HB.out.trans hq.out; rw [e]; exact lead_E0)
      obtain ⟨CI, hCI⟩ : ∃ CI : Int, CI = (s[k].toNat : Int) := ⟨_, rfl⟩
      have hch : (s[k].toNat : Int) = 224 := by have := hq.out; omega
      clear hCI
      go_wp2_with fail
      refine wp_loop_rounds 3 ?_
      rw [rounds_succ]
      by_cases h1 : k + 1 < s.size
      case neg =>
        have HBAD : Hid (R = false) := Lib.hid (by rw [← H.out]; exact LD.out.bad HLT.out (by rw [HB.out]; have := hq.out; omega) 1 (by decide) (by decide) (by unfold okAt; rw [HL.out]; omega))
        go_wp2_with fail
        go_ret
        exact ⟨ret_bool HBAD.out.symm, rfl⟩
      have hb1 := Lib.hid (bt_at s (k + 1) h1)
      by_cases l1 : s[k + 1].toNat < 160
      case pos =>
        have HBAD : Hid (R = false) := Lib.hid (by rw [← H.out]; exact LD.out.bad HLT.out (by rw [HB.out]; have := hq.out; omega) 1 (by decide) (by decide) (by unfold okAt; rw [HL.out]; have h9 := hb1.out; intro h7; have h8 := h7.2.1; rw [h9] at h8; split at h8 <;> omega))
        go_wp2_with fail
        go_ret
        exact ⟨ret_bool HBAD.out.symm, rfl⟩
      by_cases g1 : 191 < s[k + 1].toNat
      case pos =>
        have HBAD : Hid (R = false) := Lib.hid (by rw [← H.out]; exact LD.out.bad HLT.out (by rw [HB.out]; have := hq.out; omega) 1 (by decide) (by decide) (by unfold okAt; rw [HL.out]; have h9 := hb1.out; intro h7; have h8 := h7.2.2; rw [h9] at h8; split at h8 <;> omega))
        go_wp2_with fail
        go_ret
        exact ⟨ret_bool HBAD.out.symm, rfl⟩
      have HK1 : Hid (okAt s.data.toList k 160 191 1) := Lib.hid (by unfold okAt; rw [HL.out, hb1.out]; exact ⟨h1, by split <;> omega, by split <;> omega⟩)
      go_wp2_with fail
      rw [rounds_succ]
      by_cases h2 : k + 2 < s.size
      case neg =>
        have HBAD : Hid (R = false) := Lib.hid (by rw [← H.out]; exact LD.out.bad HLT.out (by rw [HB.out]; have := hq.out; omega) 2 (by decide) (by decide) (by unfold okAt; rw [HL.out]; omega))
        go_wp2_with fail
        go_ret
        exact ⟨ret_bool HBAD.out.symm, rfl⟩
      have hb2 := Lib.hid (bt_at s (k + 2) h2)
      by_cases l2 : s[k + 2].toNat < 128
      case pos =>
        have HBAD : Hid (R = false) := Lib.hid (by rw [← H.out]; exact LD.out.bad HLT.out (by rw [HB.out]; have := hq.out; omega) 2 (by decide) (by decide) (by unfold okAt; rw [HL.out]; have h9 := hb2.out; intro h7; have h8 := h7.2.1; rw [h9] at h8; split at h8 <;> omega))
        go_wp2_with fail
        go_ret
        exact ⟨ret_bool HBAD.out.symm, rfl⟩
      by_cases g2 : 191 < s[k + 2].toNat
      case pos =>
        have HBAD : Hid (R = false) := Lib.hid (by rw [← H.out]; exact LD.out.bad HLT.out (by rw [HB.out]; have := hq.out; omega) 2 (by decide) (by decide) (by unfold okAt; rw [HL.out]; have h9 := hb2.out; intro h7; have h8 := h7.2.2; rw [h9] at h8; split at h8 <;> omega))
        go_wp2_with fail
        go_ret
        exact ⟨ret_bool HBAD.out.symm, rfl⟩
      have HK2 : Hid (okAt s.data.toList k 160 191 2) := Lib.hid (by unfold okAt; rw [HL.out, hb2.out]; exact ⟨h2, by split <;> omega, by split <;> omega⟩)
      go_wp2_with fail
      rw [rounds_succ]
      have HV : Hid (Lib.validD (s.data.toList.drop (k + (2 + 1))) = R) := Lib.hid (by rw [← LD.out.good HLT.out (by rw [HB.out]; have := hq.out; omega) (fun u hu0 hu1 => by (rcases (show u = 1 ∨ u = 2 from (by omega)) with rfl | rfl <;> first | exact HK1.out | exact HK2.out))]; exact H.out)
      go_wp2_with fail
      go_roundw
      case rel => exact ⟨k + (2 + 1), by omega, by go_num, HV, trivial⟩
      case measure => simp [RowKit.intOf]; try omega
    -- E1
    by_cases hq : 225 ≤ s[k].toNat ∧ s[k].toNat ≠ 237 ∧ s[k].toNat ≤ 239
    · have hq := Lib.hid hq
      have LD : Hid (Lead (Bt s.data.toList k) 2 128 191) := Lib.hid (by rw [HB.out]; exact lead_E1 _ (by have := hq.out; omega) (by have := hq.out; omega) (by have := hq.out; omega))
      obtain ⟨CI, hCI⟩ : ∃ CI : Int, CI = (s[k].toNat : Int) := ⟨_, rfl⟩
      have hc1 : (225 : Int) ≤ (s[k].toNat : Int) := by have := hq.out; omega
      have hc2 : (s[k].toNat : Int) ≤ 239 := by have := hq.out; omega
      have hc3 : ((s[k].toNat : Int) == 237) = false := by rw [beq_eq_false_iff_ne]; have := hq.out; omega
      have hc4 : (s[k].toNat == 237) = false := by rw [beq_eq_false_iff_ne]; have := hq.out; omega
      clear hCI
      go_wp2_with fail
      refine wp_loop_rounds 3 ?_
      rw [rounds_succ]
      by_cases h1 : k + 1 < s.size
      case neg =>
        have HBAD : Hid (R = false) := Lib.hid (by rw [← H.out]; exact LD.out.bad HLT.out (by rw [HB.out]; have := hq.out; omega) 1 (by decide) (by decide) (by unfold okAt; rw [HL.out]; omega))
        go_wp2_with fail
        go_ret
        exact ⟨ret_bool HBAD.out.symm, rfl⟩
      have hb1 := Lib.hid (bt_at s (k + 1) h1)
      by_cases l1 : s[k + 1].toNat < 128
      case pos =>
        have HBAD : Hid (R = false) := Lib.hid (by rw [← H.out]; exact LD.out.bad HLT.out (by rw [HB.out]; have := hq.out; omega) 1 (by decide) (by decide) (by unfold okAt; rw [HL.out]; have h9 := hb1.out; intro h7; have h8 := h7.2.1; rw [h9] at h8; split at h8 <;> omega))
        go_wp2_with fail
        go_ret
        exact ⟨ret_bool HBAD.out.symm, rfl⟩
      by_cases g1 : 191 < s[k + 1].toNat
      case pos =>
        have HBAD : Hid (R = false) := Lib.hid (by rw [← H.out]; exact LD.out.bad HLT.out (by rw [HB.out]; have := hq.out; omega) 1 (by decide) (by decide) (by unfold okAt; rw [HL.out]; have h9 := hb1.out; intro h7; have h8 := h7.2.2; rw [h9] at h8; split at h8 <;> omega))
        go_wp2_with fail
        go_ret
        exact ⟨ret_bool HBAD.out.symm, rfl⟩
      have HK1 : Hid (okAt s.data.toList k 128 191 1) := Lib.hid (by unfold okAt; rw [HL.out, hb1.out]; exact ⟨h1, by split <;> omega, by split <;> omega⟩)
      go_wp2_with fail
      rw [rounds_succ]
      by_cases h2 : k + 2 < s.size
      case neg =>
        have HBAD : Hid (R = false) := Lib.hid (by rw [← H.out]; exact LD.out.bad HLT.out (by rw [HB.out]; have := hq.out; omega) 2 (by decide) (by decide) (by unfold okAt; rw [HL.out]; omega))
        go_wp2_with fail
        go_ret
        exact ⟨ret_bool HBAD.out.symm, rfl⟩
      have hb2 := Lib.hid (bt_at s (k + 2) h2)
      by_cases l2 : s[k + 2].toNat < 128
      case pos =>
        have HBAD : Hid (R = false) := Lib.hid (by rw [← H.out]; exact LD.out.bad HLT.out (by rw [HB.out]; have := hq.out; omega) 2 (by decide) (by decide) (by unfold okAt; rw [HL.out]; have h9 := hb2.out; intro h7; have h8 := h7.2.1; rw [h9] at h8; split at h8 <;> omega))
        go_wp2_with fail
        go_ret
        exact ⟨ret_bool HBAD.out.symm, rfl⟩
      by_cases g2 : 191 < s[k + 2].toNat
      case pos =>
        have HBAD : Hid (R = false) := Lib.hid (by rw [← H.out]; exact LD.out.bad HLT.out (by rw [HB.out]; have := hq.out; omega) 2 (by decide) (by decide) (by unfold okAt; rw [HL.out]; have h9 := hb2.out; intro h7; have h8 := h7.2.2; rw [h9] at h8; split at h8 <;> omega))
        go_wp2_with fail
        go_ret
        exact ⟨ret_bool HBAD.out.symm, rfl⟩
      have HK2 : Hid (okAt s.data.toList k 128 191 2) := Lib.hid (by unfold okAt; rw [HL.out, hb2.out]; exact ⟨h2, by split <;> omega, by split <;> omega⟩)
      go_wp2_with fail
      rw [rounds_succ]
      have HV : Hid (Lib.validD (s.data.toList.drop (k + (2 + 1))) = R) := Lib.hid (by rw [← LD.out.good HLT.out (by rw [HB.out]; have := hq.out; omega) (fun u hu0 hu1 => by (rcases (show u = 1 ∨ u = 2 from (by omega)) with rfl | rfl <;> first | exact HK1.out | exact HK2.out))]; exact H.out)
      go_wp2_with fail
      go_roundw
      case rel => exact ⟨k + (2 + 1), by omega, by go_num, HV, trivial⟩
      case measure => simp [RowKit.intOf]; try omega
    -- ED
    by_cases hq : s[k].toNat = 237
    · have hq := Lib.hid hq
      have LD : Hid (Lead (Bt s.data.toList k) 2 128 159) := Lib.hid (by have e : Bt s.data.toList k = 237 := HB.out.trans hq.out; rw [e]; exact lead_ED)
      obtain ⟨CI, hCI⟩ : ∃ CI : Int, CI = (s[k].toNat : Int) := ⟨_, rfl⟩
      have hch : (s[k].toNat : Int) = 237 := by have := hq.out; omega
      clear hCI
      go_wp2_with fail
      refine wp_loop_rounds 3 ?_
      rw [rounds_succ]
      by_cases h1 : k + 1 < s.size
      case neg =>
        have HBAD : Hid (R = false) := Lib.hid (by rw [← H.out]; exact LD.out.bad HLT.out (by rw [HB.out]; have := hq.out; omega) 1 (by decide) (by decide) (by unfold okAt; rw [HL.out]; omega))
        go_wp2_with fail
        go_ret
        exact ⟨ret_bool HBAD.out.symm, rfl⟩
      have hb1 := Lib.hid (bt_at s (k + 1) h1)
      by_cases l1 : s[k + 1].toNat < 128
      case pos =>
        have HBAD : Hid (R = false) := Lib.hid (by rw [← H.out]; exact LD.out.bad HLT.out (by rw [HB.out]; have := hq.out; omega) 1 (by decide) (by decide) (by unfold okAt; rw [HL.out]; have h9 := hb1.out; intro h7; have h8 := h7.2.1; rw [h9] at h8; split at h8 <;> omega))
        go_wp2_with fail
        go_ret
        exact ⟨ret_bool HBAD.out.symm, rfl⟩
      by_cases g1 : 159 < s[k + 1].toNat
      case pos =>
        have HBAD : Hid (R = false) := Lib.hid (by rw [← H.out]; exact LD.out.bad HLT.out (by rw [HB.out]; have := hq.out; omega) 1 (by decide) (by decide) (by unfold okAt; rw [HL.out]; have h9 := hb1.out; intro h7; have h8 := h7.2.2; rw [h9] at h8; split at h8 <;> omega))
        go_wp2_with fail
        go_ret
        exact ⟨ret_bool HBAD.out.symm, rfl⟩
      have HK1 : Hid (okAt s.data.toList k 128 159 1) := Lib.hid (by unfold okAt; rw [HL.out, hb1.out]; exact ⟨h1, by split <;> omega, by split <;> omega⟩)
      go_wp2_with fail
      rw [rounds_succ]
      by_cases h2 : k + 2 < s.size
      case neg =>
        have HBAD : Hid (R = false) := Lib.hid (by rw [← H.out]; exact LD.out.bad HLT.out (by rw [HB.out]; have := hq.out; omega) 2 (by decide) (by decide) (by unfold okAt; rw [HL.out]; omega))
        go_wp2_with fail
        go_ret
        exact ⟨ret_bool HBAD.out.symm, rfl⟩
      have hb2 := Lib.hid (bt_at s (k + 2) h2)
      by_cases l2 : s[k + 2].toNat < 128
      case pos =>
        have HBAD : Hid (R = false) := Lib.hid (by rw [← H.out]; exact LD.out.bad HLT.out (by rw [HB.out]; have := hq.out; omega) 2 (by decide) (by decide) (by unfold okAt; rw [HL.out]; have h9 := hb2.out; intro h7; have h8 := h7.2.1; rw [h9] at h8; split at h8 <;> omega))
        go_wp2_with fail
        go_ret
        exact ⟨ret_bool HBAD.out.symm, rfl⟩
      by_cases g2 : 191 < s[k + 2].toNat
      case pos =>
        have HBAD : Hid (R = false) := Lib.hid (by rw [← H.out]; exact LD.out.bad HLT.out (by rw [HB.out]; have := hq.out; omega) 2 (by decide) (by decide) (by unfold okAt; rw [HL.out]; have h9 := hb2.out; intro h7; have h8 := h7.2.2; rw [h9] at h8; split at h8 <;> omega))
        go_wp2_with fail
        go_ret
        exact ⟨ret_bool HBAD.out.symm, rfl⟩
      have HK2 : Hid (okAt s.data.toList k 128 159 2) := Lib.hid (by unfold okAt; rw [HL.out, hb2.out]; exact ⟨h2, by split <;> omega, by split <;> omega⟩)
      go_wp2_with fail
      rw [rounds_succ]
      have HV : Hid (Lib.validD (s.data.toList.drop (k + (2 + 1))) = R) := Lib.hid (by rw [← LD.out.good HLT.out (by rw [HB.out]; have := hq.out; omega) (fun u hu0 hu1 => by (rcases (show u = 1 ∨ u = 2 from (by omega)) with rfl | rfl <;> first | exact HK1.out | exact HK2.out))]; exact H.out)
      go_wp2_with fail
      go_roundw
      case rel => exact ⟨k + (2 + 1), by omega, by go_num, HV, trivial⟩
      case measure => simp [RowKit.intOf]; try omega
    -- F0
    by_cases hq : s[k].toNat = 240
    · have hq := Lib.hid hq
      have LD : Hid (Lead (Bt s.data.toList k) 3 144 191) := Lib.hid (by have e : Bt s.data.toList k = 240 := HB.out.trans hq.out; rw [e]; exact lead_F0)
      obtain ⟨CI, hCI⟩ : ∃ CI : Int, CI = (s[k].toNat : Int) := ⟨_, rfl⟩
      have hch : (s[k].toNat : Int) = 240 := by have := hq.out; omega
      clear hCI
      go_wp2_with fail
      refine wp_loop_rounds 4 ?_
      rw [rounds_succ]
      by_cases h1 : k + 1 < s.size
      case neg =>
        have HBAD : Hid (R = false) := Lib.hid (by rw [← H.out]; exact LD.out.bad HLT.out (by rw [HB.out]; have := hq.out; omega) 1 (by decide) (by decide) (by unfold okAt; rw [HL.out]; omega))
        go_wp2_with fail
        go_ret
        exact ⟨ret_bool HBAD.out.symm, rfl⟩
      have hb1 := Lib.hid (bt_at s (k + 1) h1)
      by_cases l1 : s[k + 1].toNat < 144
      case pos =>
        have HBAD : Hid (R = false) := Lib.hid (by rw [← H.out]; exact LD.out.bad HLT.out (by rw [HB.out]; have := hq.out; omega) 1 (by decide) (by decide) (by unfold okAt; rw [HL.out]; have h9 := hb1.out; intro h7; have h8 := h7.2.1; rw [h9] at h8; split at h8 <;> omega))
        go_wp2_with fail
        go_ret
        exact ⟨ret_bool HBAD.out.symm, rfl⟩
      by_cases g1 : 191 < s[k + 1].toNat
      case pos =>
        have HBAD : Hid (R = false) := Lib.hid (by rw [← H.out]; exact LD.out.bad HLT.out (by rw [HB.out]; have := hq.out; omega) 1 (by decide) (by decide) (by unfold okAt; rw [HL.out]; have h9 := hb1.out; intro h7; have h8 := h7.2.2; rw [h9] at h8; split at h8 <;> omega))
        go_wp2_with fail
        go_ret
        exact ⟨ret_bool HBAD.out.symm, rfl⟩
      have HK1 : Hid (okAt s.data.toList k 144 191 1) := Lib.hid (by unfold okAt; rw [HL.out, hb1.out]; exact ⟨h1, by split <;> omega, by split <;> omega⟩)
      go_wp2_with fail
      rw [rounds_succ]
      by_cases h2 : k + 2 < s.size
      case neg =>
        have HBAD : Hid (R = false) := Lib.hid (by rw [← H.out]; exact LD.out.bad HLT.out (by rw [HB.out]; have := hq.out; omega) 2 (by decide) (by decide) (by unfold okAt; rw [HL.out]; omega))
        go_wp2_with fail
        go_ret
        exact ⟨ret_bool HBAD.out.symm, rfl⟩
      have hb2 := Lib.hid (bt_at s (k + 2) h2)
      by_cases l2 : s[k + 2].toNat < 128
      case pos =>
        have HBAD : Hid (R = false) := Lib.hid (by rw [← H.out]; exact LD.out.bad HLT.out (by rw [HB.out]; have := hq.out; omega) 2 (by decide) (by decide) (by unfold okAt; rw [HL.out]; have h9 := hb2.out; intro h7; have h8 := h7.2.1; rw [h9] at h8; split at h8 <;> omega))
        go_wp2_with fail
        go_ret
        exact ⟨ret_bool HBAD.out.symm, rfl⟩
      by_cases g2 : 191 < s[k + 2].toNat
      case pos =>
        have HBAD : Hid (R = false) := Lib.hid (by rw [← H.out]; exact LD.out.bad HLT.out (by rw [HB.out]; have := hq.out; omega) 2 (by decide) (by decide) (by unfold okAt; rw [HL.out]; have h9 := hb2.out; intro h7; have h8 := h7.2.2; rw [h9] at h8; split at h8 <;> omega))
        go_wp2_with fail
        go_ret
        exact ⟨ret_bool HBAD.out.symm, rfl⟩
      have HK2 : Hid (okAt s.data.toList k 144 191 2) := Lib.hid (by unfold okAt; rw [HL.out, hb2.out]; exact ⟨h2, by split <;> omega, by split <;> omega⟩)
      go_wp2_with fail
      rw [rounds_succ]
      by_cases h3 : k + 3 < s.size
      case neg =>
        have HBAD : Hid (R = false) := Lib.hid (by rw [← H.out]; exact LD.out.bad HLT.out (by rw [HB.out]; have := hq.out; omega) 3 (by decide) (by decide) (by unfold okAt; rw [HL.out]; omega))
        go_wp2_with fail
        go_ret
        exact ⟨ret_bool HBAD.out.symm, rfl⟩
      have hb3 := Lib.hid (bt_at s (k + 3) h3)
      by_cases l3 : s[k + 3].toNat < 128
      case pos =>
        have HBAD : Hid (R = false) := Lib.hid (by rw [← H.out]; exact LD.out.bad HLT.out (by rw [HB.out]; have := hq.out; omega) 3 (by decide) (by decide) (by unfold okAt; rw [HL.out]; have h9 := hb3.out; intro h7; have h8 := h7.2.1; rw [h9] at h8; split at h8 <;> omega))
        go_wp2_with fail
        go_ret
        exact ⟨ret_bool HBAD.out.symm, rfl⟩
      by_cases g3 : 191 < s[k + 3].toNat
      case pos =>
        have HBAD : Hid (R = false) := Lib.hid (by rw [← H.out]; exact LD.out.bad HLT.out (by rw [HB.out]; have := hq.out; omega) 3 (by decide) (by decide) (by unfold okAt; rw [HL.out]; have h9 := hb3.out; intro h7; have h8 := h7.2.2; rw [h9] at h8; split at h8 <;> omega))
        go_wp2_with fail
        go_ret
        exact ⟨ret_bool HBAD.out.symm, rfl⟩
      have HK3 : Hid (okAt s.data.toList k 144 191 3) := Lib.hid (by unfold okAt; rw [HL.out, hb3.out]; exact ⟨h3, by split <;> omega, by split <;> omega⟩)
      go_wp2_with fail
      rw [rounds_succ]
      have HV : Hid (Lib.validD (s.data.toList.drop (k + (3 + 1))) = R) := Lib.hid (by rw [← LD.out.good HLT.out (by rw [HB.out]; have := hq.out; omega) (fun u hu0 hu1 => by (rcases (show u = 1 ∨ u = 2 ∨ u = 3 from (by omega)) with rfl | rfl | rfl <;> first | exact HK1.out | exact HK2.out | exact HK3.out))]; exact H.out)
      go_wp2_with fail
      go_roundw
      case rel => exact ⟨k + (3 + 1), by omega, by go_num, HV, trivial⟩
      case measure => simp [RowKit.intOf]; try omega
    -- F1
    by_cases hq : 241 ≤ s[k].toNat ∧ s[k].toNat ≤ 243
    · have hq := Lib.hid hq
      have LD : Hid (Lead (Bt s.data.toList k) 3 128 191) := Lib.hid (by rw [HB.out]; exact lead_F1 _ (by have := hq.out; omega) (by have := hq.out; omega))
      obtain ⟨CI, hCI⟩ : ∃ CI : Int, CI = (s[k].toNat : Int) := ⟨_, rfl⟩
      have hc1 : (241 : Int) ≤ (s[k].toNat : Int) := by have := hq.out; omega
      have hc2 : (s[k].toNat : Int) ≤ 243 := by have := hq.out; omega
      clear hCI
      go_wp2_with fail
      refine wp_loop_rounds 4 ?_
      rw [rounds_succ]
      by_cases h1 : k + 1 < s.size
      case neg =>
        have HBAD : Hid (R = false) := Lib.hid (by rw [← H.out]; exact LD.out.bad HLT.out (by rw [HB.out]; have := hq.out; omega) 1 (by decide) (by decide) (by unfold okAt; rw [HL.out]; omega))
        go_wp2_with fail
        go_ret
        exact ⟨ret_bool HBAD.out.symm, rfl⟩
      have hb1 := Lib.hid (bt_at s (k + 1) h1)
      by_cases l1 : s[k + 1].toNat < 128
      case pos =>
        have HBAD : Hid (R = false) := Lib.hid (by rw [← H.out]; exact LD.out.bad HLT.out (by rw [HB.out]; have := hq.out; omega) 1 (by decide) (by decide) (by unfold okAt; rw [HL.out]; have h9 := hb1.out; intro h7; have h8 := h7.2.1; rw [h9] at h8; split at h8 <;> omega))
        go_wp2_with fail
        go_ret
        exact ⟨ret_bool HBAD.out.symm, rfl⟩
      by_cases g1 : 191 < s[k + 1].toNat
      case pos =>
        have HBAD : Hid (R = false) := Lib.hid (by rw [← H.out]; exact LD.out.bad HLT.out (by rw [HB.out]; have := hq.out; omega) 1 (by decide) (by decide) (by unfold okAt; rw [HL.out]; have h9 := hb1.out; intro h7; have h8 := h7.2.2; rw [h9] at h8; split at h8 <;> omega))
        go_wp2_with fail
        go_ret
        exact ⟨ret_bool HBAD.out.symm, rfl⟩
      have HK1 : Hid (okAt s.data.toList k 128 191 1) := Lib.hid (by unfold okAt; rw [HL.out, hb1.out]; exact ⟨h1, by split <;> omega, by split <;> omega⟩)
      go_wp2_with fail
      rw [rounds_succ]
      by_cases h2 : k + 2 < s.size
      case neg =>
        have HBAD : Hid (R = false) := Lib.hid (by rw [← H.out]; exact LD.out.bad HLT.out (by rw [HB.out]; have := hq.out; omega) 2 (by decide) (by decide) (by unfold okAt; rw [HL.out]; omega))
        go_wp2_with fail
        go_ret
        exact ⟨ret_bool HBAD.out.symm, rfl⟩
      have hb2 := Lib.hid (bt_at s (k + 2) h2)
      by_cases l2 : s[k + 2].toNat < 128
      case pos =>
        have HBAD : Hid (R = false) := Lib.hid (by rw [← H.out]; exact LD.out.bad HLT.out (by rw [HB.out]; have := hq.out; omega) 2 (by decide) (by decide) (by unfold okAt; rw [HL.out]; have h9 := hb2.out; intro h7; have h8 := h7.2.1; rw [h9] at h8; split at h8 <;> omega))
        go_wp2_with fail
        go_ret
        exact ⟨ret_bool HBAD.out.symm, rfl⟩
      by_cases g2 : 191 < s[k + 2].toNat
      case pos =>
        have HBAD : Hid (R = false) := Lib.hid (by rw [← H.out]; exact LD.out.bad HLT.out (by rw [HB.out]; have := hq.out; omega) 2 (by decide) (by decide) (by unfold okAt; rw [HL.out]; have h9 := hb2.out; intro h7; have h8 := h7.2.2; rw [h9] at h8; split at h8 <;> omega))
        go_wp2_with fail
        go_ret
        exact ⟨ret_bool HBAD.out.symm, rfl⟩
      have HK2 : Hid (okAt s.data.toList k 128 191 2) := Lib.hid (by unfold okAt; rw [HL.out, hb2.out]; exact ⟨h2, by split <;> omega, by split <;> omega⟩)
      go_wp2_with fail
      rw [rounds_succ]
      by_cases h3 : k + 3 < s.size
      case neg =>
        have HBAD : Hid (R = false) := Lib.hid (by rw [← H.out]; exact LD.out.bad HLT.out (by rw [HB.out]; have := hq.out; omega) 3 (by decide) (by decide) (by unfold okAt; rw [HL.out]; omega))
        go_wp2_with fail
        go_ret
        exact ⟨ret_bool HBAD.out.symm, rfl⟩
      have hb3 := Lib.hid (bt_at s (k + 3) h3)
      by_cases l3 : s[k + 3].toNat < 128
      case pos =>
        have HBAD : Hid (R = false) := Lib.hid (by rw [← H.out]; exact LD.out.bad HLT.out (by rw [HB.out]; have := hq.out; omega) 3 (by decide) (by decide) (by unfold okAt; rw [HL.out]; have h9 := hb3.out; intro h7; have h8 := h7.2.1; rw [h9] at h8; split at h8 <;> omega))
        go_wp2_with fail
        go_ret
        exact ⟨ret_bool HBAD.out.symm, rfl⟩
      by_cases g3 : 191 < s[k + 3].toNat
      case pos =>
        have HBAD : Hid (R = false) := Lib.hid (by rw [← H.out]; exact LD.out.bad HLT.out (by rw [HB.out]; have := hq.out; omega) 3 (by decide) (by decide) (by unfold okAt; rw [HL.out]; have h9 := hb3.out; intro h7; have h8 := h7.2.2; rw [h9] at h8; split at h8 <;> omega))
        go_wp2_with fail
        go_ret
        exact ⟨ret_bool HBAD.out.symm, rfl⟩
      have HK3 : Hid (okAt s.data.toList k 128 191 3) := Lib.hid (by unfold okAt; rw [HL.out, hb3.out]; exact ⟨h3, by split <;> omega, by split <;> omega⟩)
      go_wp2_with fail
      rw [rounds_succ]
      have HV : Hid (Lib.validD (s.data.toList.drop (k + (3 + 1))) = R) := Lib.hid (by rw [← LD.out.good HLT.out (by rw [HB.out]; have := hq.out; omega) (fun u hu0 hu1 => by (rcases (show u = 1 ∨ u = 2 ∨ u = 3 from (by omega)) with rfl | rfl | rfl <;> first | exact HK1.out | exact HK2.out | exact HK3.out))]; exact H.out)
      go_wp2_with fail
      go_roundw
      case rel => exact ⟨k + (3 + 1), by omega, by go_num, HV, trivial⟩
      case measure => simp [RowKit.intOf]; try omega
    -- F4
    by_cases hq : s[k].toNat = 244
    · have hq := Lib.hid hq
      have LD : Hid (Lead (Bt s.data.toList k) 3 128 143) := Lib.hid (by have e : Bt s.data.toList k = 244 := HB.out.trans hq.out; rw [e]; exact lead_F4)
      obtain ⟨CI, hCI⟩ : ∃ CI : Int, CI = (s[k].toNat : Int) := ⟨_, rfl⟩
      have hch : (s[k].toNat : Int) = 244 := by have := hq.out; omega
      clear hCI
      go_wp2_with fail
      refine wp_loop_rounds 4 ?_
      rw [rounds_succ]
      by_cases h1 : k + 1 < s.size
      case neg =>
        have HBAD : Hid (R = false) := Lib.hid (by rw [← H.out]; exact LD.out.bad HLT.out (by rw [HB.out]; have := hq.out; omega) 1 (by decide) (by decide) (by unfold okAt; rw [HL.out]; omega))
        go_wp2_with fail
        go_ret
        exact ⟨ret_bool HBAD.out.symm, rfl⟩
      have hb1 := Lib.hid (bt_at s (k + 1) h1)
      by_cases l1 : s[k + 1].toNat < 128
      case pos =>
        have HBAD : Hid (R = false) := Lib.hid (by rw [← H.out]; exact LD.out.bad HLT.out (by rw [HB.out]; have := hq.out; omega) 1 (by decide) (by decide) (by unfold okAt; rw [HL.out]; have h9 := hb1.out; intro h7; have h8 := h7.2.1; rw [h9] at h8; split at h8 <;> omega))
        go_wp2_with fail
        go_ret
        exact ⟨ret_bool HBAD.out.symm, rfl⟩
      by_cases g1 : 143 < s[k + 1].toNat
      case pos =>
        have HBAD : Hid (R = false) := Lib.hid (by rw [← H.out]; exact LD.out.bad HLT.out (by rw [HB.out]; have := hq.out; omega) 1 (by decide) (by decide) (by unfold okAt; rw [HL.out]; have h9 := hb1.out; intro h7; have h8 := h7.2.2; rw [h9] at h8; split at h8 <;> omega))
        go_wp2_with fail
        go_ret
        exact ⟨ret_bool HBAD.out.symm, rfl⟩
      have HK1 : Hid (okAt s.data.toList k 128 143 1) := Lib.hid (by unfold okAt; rw [HL.out, hb1.out]; exact ⟨h1, by split <;> omega, by split <;> omega⟩)
      go_wp2_with fail
      rw [rounds_succ]
      by_cases h2 : k + 2 < s.size
      case neg =>
        have HBAD : Hid (R = false) := Lib.hid (by rw [← H.out]; exact LD.out.bad HLT.out (by rw [HB.out]; have := hq.out; omega) 2 (by decide) (by decide) (by unfold okAt; rw [HL.out]; omega))
        go_wp2_with fail
        go_ret
        exact ⟨ret_bool HBAD.out.symm, rfl⟩
      have hb2 := Lib.hid (bt_at s (k + 2) h2)
      by_cases l2 : s[k + 2].toNat < 128
      case pos =>
        have HBAD : Hid (R = false) := Lib.hid (by rw [← H.out]; exact LD.out.bad HLT.out (by rw [HB.out]; have := hq.out; omega) 2 (by decide) (by decide) (by unfold okAt; rw [HL.out]; have h9 := hb2.out; intro h7; have h8 := h7.2.1; rw [h9] at h8; split at h8 <;> omega))
        go_wp2_with fail
        go_ret
        exact ⟨ret_bool HBAD.out.symm, rfl⟩
      by_cases g2 : 191 < s[k + 2].toNat
      case pos =>
        have HBAD : Hid (R = false) := Lib.hid (by rw [← H.out]; exact LD.out.bad HLT.out (by rw [HB.out]; have := hq.out; omega) 2 (by decide) (by decide) (by unfold okAt; rw [HL.out]; have h9 := hb2.out; intro h7; have h8 := h7.2.2; rw [h9] at h8; split at h8 <;> omega))
        go_wp2_with fail
        go_ret
        exact ⟨ret_bool HBAD.out.symm, rfl⟩
      have HK2 : Hid (okAt s.data.toList k 128 143 2) := Lib.hid (by unfold okAt; rw [HL.out, hb2.out]; exact ⟨h2, by split <;> omega, by split <;> omega⟩)
      go_wp2_with fail
      rw [rounds_succ]
      by_cases h3 : k + 3 < s.size
      case neg =>
        have HBAD : Hid (R = false) := Lib.hid (by rw [← H.out]; exact LD.out.bad HLT.out (by rw [HB.out]; have := hq.out; omega) 3 (by decide) (by decide) (by unfold okAt; rw [HL.out]; omega))
        go_wp2_with fail
        go_ret
        exact ⟨ret_bool HBAD.out.symm, rfl⟩
      have hb3 := Lib.hid (bt_at s (k + 3) h3)
      by_cases l3 : s[k + 3].toNat < 128
      case pos =>
        have HBAD : Hid (R = false) := Lib.hid (by rw [← H.out]; exact LD.out.bad HLT.out (by rw [HB.out]; have := hq.out; omega) 3 (by decide) (by decide) (by unfold okAt; rw [HL.out]; have h9 := hb3.out; intro h7; have h8 := h7.2.1; rw [h9] at h8; split at h8 <;> omega))
        go_wp2_with fail
        go_ret
        exact ⟨ret_bool HBAD.out.symm, rfl⟩
      by_cases g3 : 191 < s[k + 3].toNat
      case pos =>
        have HBAD : Hid (R = false) := Lib.hid (by rw [← H.out]; exact LD.out.bad HLT.out (by rw [HB.out]; have := hq.out; omega) 3 (by decide) (by decide) (by unfold okAt; rw [HL.out]; have h9 := hb3.out; intro h7; have h8 := h7.2.2; rw [h9] at h8; split at h8 <;> omega))
        go_wp2_with fail
        go_ret
        exact ⟨ret_bool HBAD.out.symm, rfl⟩
      have HK3 : Hid (okAt s.data.toList k 128 143 3) := Lib.hid (by unfold okAt; rw [HL.out, hb3.out]; exact ⟨h3, by split <;> omega, by split <;> omega⟩)
      go_wp2_with fail
      rw [rounds_succ]
      have HV : Hid (Lib.validD (s.data.toList.drop (k + (3 + 1))) = R) := Lib.hid (by rw [← LD.out.good HLT.out (by rw [HB.out]; have := hq.out; omega) (fun u hu0 hu1 => by (rcases (show u = 1 ∨ u = 2 ∨ u = 3 from (by omega)) with rfl | rfl | rfl <;> first | exact HK1.out | exact HK2.out | exact HK3.out))]; exact H.out)
      go_wp2_with fail
      go_roundw
      case rel => exact ⟨k + (3 + 1), by omega, by go_num, HV, trivial⟩
      case measure => simp [RowKit.intOf]; try omega
    have HBAD : Hid (R = false) := Lib.hid (by rw [← H.out]; exact v_no _ _ HLT.out (by rw [HB.out]; omega))
    rcases (show s[k].toNat ≤ 193 ∨ 245 ≤ s[k].toNat by omega) with hz | hz
    · have hz1 : (128 : Int) ≤ (s[k].toNat : Int) := by omega
      have hz2 : (s[k].toNat : Int) ≤ 193 := by omega
      go_wp2_with fail
      go_ret
      exact ⟨ret_bool HBAD.out.symm, rfl⟩
    · have hz1 : (245 : Int) ≤ (s[k].toNat : Int) := by omega
      go_wp2_with fail
      go_ret
      exact ⟨ret_bool HBAD.out.symm, rfl⟩
end Go.Proofs.YtaaogjhaokaggaaGreatDoor
