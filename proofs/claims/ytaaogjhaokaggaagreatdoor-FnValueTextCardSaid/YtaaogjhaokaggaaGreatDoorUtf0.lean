import Derived.Test.YtaaogjhaokaggaaGreatDoorBase
import Derived.Lib.ValidLaws
namespace Go.Proofs.YtaaogjhaokaggaaGreatDoor
open Go.RowKit Go.Lib

def Bt (l : List UInt8) (i : Nat) : Nat := (l.getD i 0).toNat
/-- The t-th byte behind a lead byte at i is one that may stand there. -/
def okAt (l : List UInt8) (i lo hi t : Nat) : Prop := i + t < l.length ∧ (if t = 1 then lo else 128) ≤ Bt l (i + t) ∧ Bt l (i + t) ≤ (if t = 1 then hi else 191)
theorem v_cons (l : List UInt8) (i : Nat) (h : i < l.length) (hc : Bt l i < 128) : validD (l.drop i) = validD (l.drop (i + 1)) := by
  rw [List.drop_eq_getElem_cons h]
  refine validD_cons _ _ ?_
  unfold Bt at hc
  rw [List.getD_eq_getElem?_getD, List.getElem?_eq_getElem h] at hc
  exact hc
theorem v_lead (l : List UInt8) (i : Nat) (h : i < l.length) (h128 : 128 ≤ Bt l i) : validD (l.drop i) = match checkN (l.length - i) (Bt l (i + 1)) (Bt l (i + 2)) (Bt l (i + 3)) (firstT (Bt l i) % 8) (accLo (firstT (Bt l i) / 16)) (accHi (firstT (Bt l i) / 16)) with
    | none => false
    | some k => validD (l.drop (i + k)) := by
  have hne : l.drop i ≠ [] := by
    intro e
    have := congrArg List.length e
    simp at this
    omega
  have hg : ∀ j, ((l.drop i).getD j 0) = l.getD (i + j) 0 := fun j => by simp [List.getD_eq_getElem?_getD]
  have := validD_lead (l.drop i) hne (by rw [hg]; exact h128)
  simp only [hg, List.length_drop, List.drop_drop, Nat.add_zero] at this
  rw [this]
  simp only [Bt]
  rfl
theorem v_good (l : List UInt8) (i n lo hi : Nat) (h : i < l.length) (h128 : 128 ≤ Bt l i) (hn : n = 1 ∨ n = 2 ∨ n = 3) (e1 : firstT (Bt l i) % 8 = n + 1) (e2 : accLo (firstT (Bt l i) / 16) = lo) (e3 : accHi (firstT (Bt l i) / 16) = hi)
    (hok : ∀ t, 1 ≤ t → t ≤ n → okAt l i lo hi t) : validD (l.drop i) = validD (l.drop (i + (n + 1))) := by
  rw [v_lead l i h h128, e1, e2, e3]
  unfold okAt at hok
  have h1 := hok 1 (by omega) (by omega)
  simp only [if_true] at h1
  rcases hn with rfl | rfl | rfl
  · simp only [checkN, if_true]
    rw [if_neg (by omega)]
  · have h2 := hok 2 (by omega) (by omega)
    simp only [show (2 : Nat) ≠ 1 by decide, if_false] at h2
    simp only [checkN, show (2 + 1 : Nat) ≠ 2 by decide, if_false, if_true]
    rw [if_neg (by omega)]
  · have h2 := hok 2 (by omega) (by omega)
    have h3 := hok 3 (by omega) (by omega)
    simp only [show (2 : Nat) ≠ 1 by decide, show (3 : Nat) ≠ 1 by decide, if_false] at h2 h3
    simp only [checkN, show (3 + 1 : Nat) ≠ 2 by decide, show (3 + 1 : Nat) ≠ 3 by decide, if_false, if_true]
    rw [if_neg (by omega)]
theorem v_bad (l : List UInt8) (i n lo hi t : Nat) (h : i < l.length) (h128 : 128 ≤ Bt l i) (hn : n = 1 ∨ n = 2 ∨ n = 3) (e1 : firstT (Bt l i) % 8 = n + 1) (e2 : accLo (firstT (Bt l i) / 16) = lo) (e3 : accHi (firstT (Bt l i) / 16) = hi)
    (ht0 : 1 ≤ t) (ht1 : t ≤ n) (hb : ¬ okAt l i lo hi t) : validD (l.drop i) = false := by
  rw [v_lead l i h h128, e1, e2, e3]
  unfold okAt at hb
  rcases hn with rfl | rfl | rfl
  · have : t = 1 := by omega
    subst this
    simp only [if_true] at hb
    simp only [checkN, if_true]
    rw [if_pos (by omega)]
  · rcases (show t = 1 ∨ t = 2 by omega) with rfl | rfl
    · simp only [if_true] at hb
      simp only [checkN, show (2 + 1 : Nat) ≠ 2 by decide, if_false, if_true]
      rw [if_pos (by omega)]
    · simp only [show (2 : Nat) ≠ 1 by decide, if_false] at hb
      simp only [checkN, show (2 + 1 : Nat) ≠ 2 by decide, if_false, if_true]
      rw [if_pos (by omega)]
  · rcases (show t = 1 ∨ t = 2 ∨ t = 3 by omega) with rfl | rfl | rfl
    · simp only [if_true] at hb
      simp only [checkN, show (3 + 1 : Nat) ≠ 2 by decide, show (3 + 1 : Nat) ≠ 3 by decide, if_false, if_true]
      rw [if_pos (by omega)]
    · simp only [show (2 : Nat) ≠ 1 by decide, if_false] at hb
      simp only [checkN, show (3 + 1 : Nat) ≠ 2 by decide, show (3 + 1 : Nat) ≠ 3 by decide, if_false, if_true]
      rw [if_pos (by omega)]
    · simp only [show (3 : Nat) ≠ 1 by decide, if_false] at hb
      simp only [checkN, show (3 + 1 : Nat) ≠ 2 by decide, show (3 + 1 : Nat) ≠ 3 by decide, if_false, if_true]
      rw [if_pos (by omega)]
theorem v_no (l : List UInt8) (i : Nat) (h : i < l.length) (hb : (128 ≤ Bt l i ∧ Bt l i < 194) ∨ 245 ≤ Bt l i) : validD (l.drop i) = false := by
  rw [v_lead l i h (by omega)]
  have e : firstT (Bt l i) = 241 := by
    unfold firstT
    rcases hb with hb | hb
    · rw [if_neg (by omega), if_pos (by omega)]
    · rw [if_neg (by omega), if_neg (by omega), if_neg (by omega), if_neg (by omega), if_neg (by omega), if_neg (by omega), if_neg (by omega), if_neg (by omega), if_neg (by omega), if_neg (by omega)]
  rw [e]
  rfl
/-- A class of lead bytes. -/
structure Lead (c n lo hi : Nat) : Prop where
  n3 : n = 1 ∨ n = 2 ∨ n = 3
  e1 : firstT c % 8 = n + 1
  e2 : accLo (firstT c / 16) = lo
  e3 : accHi (firstT c / 16) = hi
theorem lead_C2 (c : Nat) (h0 : 194 ≤ c) (h1 : c ≤ 223) : Lead c 1 128 191 := by
  have e : firstT c = 2 := by unfold firstT; rw [if_neg (by omega), if_neg (by omega), if_pos (by omega)]
  exact ⟨.inl rfl, by rw [e], by rw [e]; rfl, by rw [e]; rfl⟩
theorem lead_E0 : Lead 224 2 160 191 := ⟨.inr (.inl rfl), rfl, rfl, rfl⟩
theorem lead_ED : Lead 237 2 128 159 := ⟨.inr (.inl rfl), rfl, rfl, rfl⟩
theorem lead_F0 : Lead 240 3 144 191 := ⟨.inr (.inr rfl), rfl, rfl, rfl⟩
theorem lead_F4 : Lead 244 3 128 143 := ⟨.inr (.inr rfl), rfl, rfl, rfl⟩
theorem lead_E1 (c : Nat) (h0 : 225 ≤ c) (h1 : c ≤ 239) (h2 : c ≠ 237) : Lead c 2 128 191 := by
  have e : firstT c = 3 := by
    unfold firstT
    rw [if_neg (by omega), if_neg (by omega), if_neg (by omega), if_neg (by omega)]
    split
    · rfl
    · first | rw [if_pos (by omega)] | rw [if_neg (by omega), if_pos (by omega)]
  exact ⟨.inr (.inl rfl), by rw [e], by rw [e]; rfl, by rw [e]; rfl⟩
theorem lead_F1 (c : Nat) (h0 : 241 ≤ c) (h1 : c ≤ 243) : Lead c 3 128 191 := by
  have e : firstT c = 4 := by
    unfold firstT
    rw [if_neg (by omega), if_neg (by omega), if_neg (by omega), if_neg (by omega), if_neg (by omega), if_neg (by omega), if_neg (by omega), if_neg (by omega), if_pos (by omega)]
  exact ⟨.inr (.inr rfl), by rw [e], by rw [e]; rfl, by rw [e]; rfl⟩
theorem Lead.good {l : List UInt8} {i n lo hi : Nat} (L : Lead (Bt l i) n lo hi) (h : i < l.length) (h128 : 128 ≤ Bt l i) (hok : ∀ t, 1 ≤ t → t ≤ n → okAt l i lo hi t) : validD (l.drop i) = validD (l.drop (i + (n + 1))) :=
  v_good l i n lo hi h h128 L.n3 L.e1 L.e2 L.e3 hok
theorem Lead.bad {l : List UInt8} {i n lo hi : Nat} (L : Lead (Bt l i) n lo hi) (h : i < l.length) (h128 : 128 ≤ Bt l i) (t : Nat) (ht0 : 1 ≤ t) (ht1 : t ≤ n) (hb : ¬ okAt l i lo hi t) : validD (l.drop i) = false :=
  v_bad l i n lo hi t h h128 L.n3 L.e1 L.e2 L.e3 ht0 ht1 hb
end Go.Proofs.YtaaogjhaokaggaaGreatDoor
