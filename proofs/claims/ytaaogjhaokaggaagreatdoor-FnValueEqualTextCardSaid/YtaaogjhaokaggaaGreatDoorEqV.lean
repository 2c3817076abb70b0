import Derived.Test.YtaaogjhaokaggaaGreatDoorVeq
import Derived.Test.YtaaogjhaokaggaaGreatDoorSpX
import Derived.Shelf.Spec.RuneCount
namespace Go.Proofs.YtaaogjhaokaggaaGreatDoor
open Go.RowKit

/-! ### Two floats are equal -/
theorem rd_can (n : Nat) (h : n % 9223372036854775808 < 9218868437227405312) : ∃ a k : Nat, FloatKind.f64.format.read n = .number (n / 9223372036854775808 % 2 == 1) a (-1074 + (k : Int)) ∧
    ((k = 0 ∧ a = n % 9223372036854775808 ∧ a < 9007199254740992) ∨ (1 ≤ k ∧ 4503599627370496 ≤ a ∧ a < 9007199254740992 ∧ n % 9223372036854775808 = k * 4503599627370496 + a)) := by
  by_cases h0 : n % 9223372036854775808 < 4503599627370496
  · exact ⟨_, 0, rd_small n h0, .inl ⟨rfl, rfl, by omega⟩⟩
  · refine ⟨_, _, rd_num n h0 h, ?_⟩
    by_cases h1 : n % 9223372036854775808 / 4503599627370496 = 1
    · exact .inl ⟨by omega, by omega, by omega⟩
    · exact .inr ⟨by omega, by omega, by omega, by omega⟩
theorem signed_eq (s : Bool) (a k : Nat) : Ieee.signed s a k = if s then -((a * 2 ^ k : Nat) : Int) else ((a * 2 ^ k : Nat) : Int) := by
  unfold Ieee.signed
  rw [Nat.shiftLeft_eq]
theorem cmp_key (s t : Bool) (A B : Nat) : (compare (if s then -(A : Int) else (A : Int)) (if t then -(B : Int) else (B : Int)) == Ordering.eq) = ((s == t && A == B) || (A == 0 && B == 0)) := by
  have hc : ∀ x y : Int, (compare x y == Ordering.eq) = decide (x = y) := by
    intro x y
    by_cases h : x = y
    · subst h
      rw [cmp_self, decide_eq_true rfl]
      rfl
    · rw [decide_eq_false h]
      simp only [compare, compareOfLessAndEq]
      split <;> rfl
  rw [hc]
  cases s <;> cases t <;> rw [Bool.eq_iff_iff] <;> simp <;> omega
theorem ord_eq {n m : Nat} (hn : n < 18446744073709551616) (hm : m < 18446744073709551616) (fn : n % 9223372036854775808 < 9218868437227405312) (fm : m % 9223372036854775808 < 9218868437227405312) :
    (FloatKind.f64.format.order n m == some .eq) = (n == m || (n % 9223372036854775808 == 0 && m % 9223372036854775808 == 0)) := by
  obtain ⟨a, k, ha, ca⟩ := rd_can n fn
  obtain ⟨b, l, hb, cb⟩ := rd_can m fm
  show ((FloatKind.f64.format.read n).order (FloatKind.f64.format.read m) == some .eq) = _
  rw [ha, hb]
  simp only [Ieee.Datum.order]
  have hsome : ∀ o : Ordering, (some o == some Ordering.eq) = (o == Ordering.eq) := by intro o; cases o <;> rfl
  rw [hsome, signed_eq, signed_eq, cmp_key]
  have hs : ∀ x : Nat, x < 18446744073709551616 → x / 9223372036854775808 % 2 = x / 9223372036854775808 := fun x hx => by omega
  have key : (a * 2 ^ ((-1074 + (k : Int)) - min (-1074 + (k : Int)) (-1074 + (l : Int))).toNat = b * 2 ^ ((-1074 + (l : Int)) - min (-1074 + (k : Int)) (-1074 + (l : Int))).toNat) ↔ (n % 9223372036854775808 = m % 9223372036854775808) := by
    rcases Nat.lt_trichotomy k l with h | h | h
    · have e1 : ((-1074 + (k : Int)) - min (-1074 + (k : Int)) (-1074 + (l : Int))).toNat = 0 := by omega
      obtain ⟨q, hq⟩ : ∃ q, ((-1074 + (l : Int)) - min (-1074 + (k : Int)) (-1074 + (l : Int))).toNat = q + 1 := ⟨(l - k - 1), by omega⟩
      rw [e1, hq]
      have h2 : b * 2 ≤ b * 2 ^ (q + 1) := Nat.mul_le_mul_left _ (by rw [Nat.pow_succ]; have := Nat.two_pow_pos q; omega)
      constructor
      · intro e; simp at e; omega
      · intro e; omega
    · subst h
      rw [show ((-1074 + (k : Int)) - min (-1074 + (k : Int)) (-1074 + (k : Int))).toNat = 0 by omega]
      constructor
      · intro e; simp at e; omega
      · intro e
        have : a = b := by omega
        rw [this]
    · have e1 : ((-1074 + (l : Int)) - min (-1074 + (k : Int)) (-1074 + (l : Int))).toNat = 0 := by omega
      obtain ⟨q, hq⟩ : ∃ q, ((-1074 + (k : Int)) - min (-1074 + (k : Int)) (-1074 + (l : Int))).toNat = q + 1 := ⟨(k - l - 1), by omega⟩
      rw [e1, hq]
      have h2 : a * 2 ≤ a * 2 ^ (q + 1) := Nat.mul_le_mul_left _ (by rw [Nat.pow_succ]; have := Nat.two_pow_pos q; omega)
      constructor
      · intro e; simp at e; omega
      · intro e; omega
  have zero : ∀ (x q N k : Nat), ((k = 0 ∧ x = N ∧ x < 9007199254740992) ∨ (1 ≤ k ∧ 4503599627370496 ≤ x ∧ x < 9007199254740992 ∧ N = k * 4503599627370496 + x)) → ((x * 2 ^ q = 0) ↔ N = 0) := by
    intro x q N k h
    have := Nat.two_pow_pos q
    constructor
    · intro e
      rcases Nat.mul_eq_zero.1 e with e | e <;> omega
    · intro e
      have : x = 0 := by omega
      rw [this, Nat.zero_mul]
  have z1 := zero a ((-1074 + (k : Int)) - min (-1074 + (k : Int)) (-1074 + (l : Int))).toNat _ k ca
  have z2 := zero b ((-1074 + (l : Int)) - min (-1074 + (k : Int)) (-1074 + (l : Int))).toNat _ l cb
  generalize a * 2 ^ ((-1074 + (k : Int)) - min (-1074 + (k : Int)) (-1074 + (l : Int))).toNat = A at *
  generalize b * 2 ^ ((-1074 + (l : Int)) - min (-1074 + (k : Int)) (-1074 + (l : Int))).toNat = B at *
  have e1 : (A == B) = (n % 9223372036854775808 == m % 9223372036854775808) := by
    rw [Bool.eq_iff_iff, beq_iff_eq, beq_iff_eq]; exact key
  have e2 : (A == 0) = (n % 9223372036854775808 == 0) := by rw [Bool.eq_iff_iff, beq_iff_eq, beq_iff_eq]; exact z1
  have e3 : (B == 0) = (m % 9223372036854775808 == 0) := by rw [Bool.eq_iff_iff, beq_iff_eq, beq_iff_eq]; exact z2
  have e4 : ((n / 9223372036854775808 % 2 == 1) == (m / 9223372036854775808 % 2 == 1) && n % 9223372036854775808 == m % 9223372036854775808) = (n == m) := by
    rw [Bool.eq_iff_iff, Bool.and_eq_true, beq_iff_eq, beq_iff_eq, beq_iff_eq, Bool.eq_iff_iff, beq_iff_eq, beq_iff_eq]
    omega
  rw [e1, e2, e3, e4]
end Go.Proofs.YtaaogjhaokaggaaGreatDoor
