/- Plain: uscale as a function of numbers; the decimal intervals of one binade, and of all, are apart. -/
namespace Go.Proofs.YtaaogjhaokaggaaGreatDoor.Inj

/-- x * hi - x * lo / 2^64: the scaled product in units of 2^64. -/
def W (hi lo x : Nat) : Nat := x * hi - x * lo / 2 ^ 64
/-- floor and sticky bit. -/
def g (K w : Nat) : Nat := if w % K > 1 then (if (w / K) % 2 = 0 then w / K + 1 else w / K) else w / K
theorem g_mono (K : Nat) {a b : Nat} (h : a ≤ b) : g K a ≤ g K b := by
  have hq : a / K ≤ b / K := Nat.div_le_div_right h
  have ha := Nat.div_add_mod a K
  have hb := Nat.div_add_mod b K
  unfold g
  rcases Nat.lt_or_ge (a / K) (b / K) with hlt | hge
  · repeat' split
    all_goals omega
  · have he : a / K = b / K := by omega
    rw [he] at ha
    have hr : a % K ≤ b % K := by omega
    rw [he]
    repeat' split
    all_goals omega
theorem g_ge (K w : Nat) : w / K ≤ g K w := by
  unfold g
  repeat' split
  all_goals omega
theorem g_le (K w : Nat) : g K w ≤ w / K + 1 := by
  unfold g
  repeat' split
  all_goals omega
/-- An even result is exact. -/
theorem g_even (K w : Nat) (h : g K w % 2 = 0) : w / K = g K w ∧ w % K ≤ 1 := by
  unfold g at *
  by_cases h1 : w % K > 1
  · rw [if_pos h1] at h
    split at h <;> omega
  · rw [if_neg h1]
    exact ⟨rfl, by omega⟩
/-- A step of 2K + 2 is a step of 2 at least, of 3 where the lower one is even. -/
theorem g_step (K : Nat) (hK : 2 < K) {a b : Nat} (h : a + (2 * K + 2) ≤ b) : g K a + 2 ≤ g K b ∧ (g K a % 2 = 0 → g K a + 3 ≤ g K b) := by
  have hb1 := g_ge K b
  have ha1 := g_le K a
  have hm : (a + 2 * K) / K = a / K + 2 := by rw [Nat.add_mul_div_right a 2 (by omega)]
  have hm2 : (a + 2 * K) % K = a % K := by rw [Nat.add_mul_mod_self_right]
  have hg := g_mono K (show a + 2 * K + 2 ≤ b by omega)
  have hkey : g K a + 2 ≤ g K (a + 2 * K) := by
    unfold g
    rw [hm, hm2]
    repeat' split
    all_goals omega
  have hkey2 := g_mono K (show a + 2 * K ≤ a + 2 * K + 2 by omega)
  refine ⟨by omega, fun he => ?_⟩
  obtain ⟨e1, e2⟩ := g_even K a he
  -- a = q K + r, r ≤ 1: a + 2K + 2 = (q + 2) K + (r + 2)
  have ha := Nat.div_add_mod a K
  have h3 : a + 2 * K + 2 = (a % K + 2) + (a / K + 2) * K := by
    rw [Nat.add_mul]
    have : a / K * K = K * (a / K) := Nat.mul_comm _ _
    omega
  have hd : g K a + 3 ≤ g K (a + 2 * K + 2) := by
    rw [h3]
    by_cases hlt : a % K + 2 < K
    · have q1 : ((a % K + 2) + (a / K + 2) * K) / K = a / K + 2 := by
        rw [Nat.add_mul_div_right _ _ (by omega), Nat.div_eq_of_lt hlt]; omega
      have q2 : ((a % K + 2) + (a / K + 2) * K) % K = a % K + 2 := by
        rw [Nat.add_mul_mod_self_right, Nat.mod_eq_of_lt hlt]
      unfold g at he ⊢
      rw [q1, q2]
      rw [if_neg (by omega)] at he
      rw [if_neg (show ¬ a % K > 1 by omega), if_pos (by omega), if_pos (by omega)]
      omega
    · have hge : K ≤ a % K + 2 := by omega
      have q1 : a / K + 3 ≤ ((a % K + 2) + (a / K + 2) * K) / K := by
        rw [Nat.add_mul_div_right _ _ (by omega)]
        have : 1 ≤ (a % K + 2) / K := (Nat.one_le_div_iff (by omega)).2 hge
        omega
      have := g_ge K ((a % K + 2) + (a / K + 2) * K)
      omega
  omega

/-- The least and the greatest decimal, and the one that is taken. -/
def dmin (a odd : Nat) : Nat := (a + odd + 3) / 4
def dmax (b odd : Nat) : Nat := (b - odd) / 4
def rnd (c : Nat) : Nat := (c + 1 + c / 4 % 2) / 4
/-- What is between: a, c, b the scaled ends and the middle. -/
theorem between {a c b odd : Nat} (ho : odd ≤ 1) (h1 : a + 2 ≤ c) (h1e : a % 2 = 0 → a + 3 ≤ c) (h2 : c + 2 ≤ b) (h2e : c % 2 = 0 → c + 3 ≤ b) :
    dmin a odd ≤ dmax b odd ∧ dmin a odd ≤ rnd c ∧ rnd c ≤ dmax b odd := by
  unfold dmin dmax rnd
  refine ⟨by omega, by omega, by omega⟩
/-- The neighbours' intervals are apart. -/
theorem apart {u odd : Nat} (hu : 1 ≤ u) (ho : odd ≤ 1) : dmax u odd < dmin u (1 - odd) := by
  unfold dmin dmax
  omega


theorem W_step (hi lo x δ : Nat) (hl : lo ≤ 18446744073709551616) (hh : 1 ≤ hi) : W hi lo x + δ * (hi - 1) ≤ W hi lo (x + δ) := by
  unfold W
  have h1 : (x + δ) * lo / 2 ^ 64 ≤ x * lo / 2 ^ 64 + δ := by
    have a : (x + δ) * lo ≤ x * lo + δ * 2 ^ 64 := by
      rw [Nat.add_mul]
      exact Nat.add_le_add_left (Nat.mul_le_mul_left δ hl) _
    have b := Nat.div_le_div_right (c := 2 ^ 64) a
    rw [Nat.add_mul_div_right _ _ (by decide)] at b
    exact b
  have h2 : x * lo / 2 ^ 64 ≤ x := by
    have a : x * lo ≤ x * 2 ^ 64 := Nat.mul_le_mul_left x hl
    have b := Nat.div_le_div_right (c := 2 ^ 64) a
    rw [Nat.mul_div_cancel _ (by decide)] at b
    exact b
  have h3 : x ≤ x * hi := Nat.le_mul_of_pos_right x hh
  have h4 : δ * (hi - 1) + δ = δ * hi := by
    rw [← Nat.mul_succ]
    congr 1
    omega
  rw [Nat.add_mul x δ hi]
  generalize x * lo / 2 ^ 64 = A at *
  generalize (x + δ) * lo / 2 ^ 64 = A' at *
  generalize x * hi = P at *
  generalize δ * hi = Q at *
  generalize δ * (hi - 1) = R at *
  omega
theorem W_ge (hi lo x : Nat) (hl : lo ≤ 18446744073709551616) (hh : 1 ≤ hi) : x * (hi - 1) ≤ W hi lo x := by
  have := W_step hi lo 0 x hl hh
  rw [Nat.zero_add] at this
  omega
theorem g_mul (K c : Nat) (hK : 0 < K) : g K (c * K) = c := by
  unfold g
  rw [Nat.mul_mod_left, Nat.mul_div_cancel _ hK]
  rfl

/-- uscale. -/
def usq (hi lo s x : Nat) : Nat := g (2 ^ (64 + s)) (W hi lo x)
theorem usq_pos (hi lo s x : Nat) (hl : lo ≤ 18446744073709551616) (hh : 9223372036854775808 ≤ hi) (hs : s ≤ 58) (hx : 4611686018427387904 ≤ x) : 1 ≤ usq hi lo s x := by
  have h1 := W_ge hi lo x hl (by omega)
  have h2 : 4611686018427387904 * 9223372036854775807 ≤ x * (hi - 1) := Nat.mul_le_mul hx (by omega)
  have h3 : (2 : Nat) ^ (64 + s) ≤ 2 ^ 122 := Nat.pow_le_pow_right (by decide) (by omega)
  have h4 : 2 ^ (64 + s) ≤ W hi lo x := by
    have : (2 : Nat) ^ 122 ≤ 4611686018427387904 * 9223372036854775807 := by decide
    omega
  have h5 := g_ge (2 ^ (64 + s)) (W hi lo x)
  have h6 : 1 ≤ W hi lo x / 2 ^ (64 + s) := (Nat.one_le_div_iff (Nat.two_pow_pos _)).2 h4
  unfold usq
  omega
theorem usq_lt (hi lo s x : Nat) (hh : hi < 18446744073709551616) (hs : 4 ≤ s) (hx : x < 18446744073709551616) : usq hi lo s x ≤ 1152921504606846976 := by
  have h1 : W hi lo x ≤ 18446744073709551615 * 18446744073709551615 := by
    unfold W
    exact Nat.le_trans (Nat.sub_le _ _) (Nat.mul_le_mul (by omega) (by omega))
  have h3 : (2 : Nat) ^ 68 ≤ 2 ^ (64 + s) := Nat.pow_le_pow_right (by decide) (by omega)
  have h2 := g_le (2 ^ (64 + s)) (W hi lo x)
  have h4 : W hi lo x / 2 ^ (64 + s) ≤ W hi lo x / 2 ^ 68 := Nat.div_le_div_left h3 (by decide)
  have h5 : W hi lo x / 2 ^ 68 ≤ 18446744073709551615 * 18446744073709551615 / 2 ^ 68 := Nat.div_le_div_right h1
  have h6 : 18446744073709551615 * 18446744073709551615 / 2 ^ 68 = 1152921504606846975 := by decide
  unfold usq
  omega

/-! The code's steps. -/
def orOne (q : Nat) : Nat := if q % 2 = 0 then q + 1 else q
theorem g_form (K q R : Nat) (hR : R < K) : g K (K * q + R) = if R > 1 then orOne q else q := by
  have h1 : (K * q + R) / K = q := by rw [Nat.mul_add_div (by omega), Nat.div_eq_of_lt hR, Nat.add_zero]
  have h2 : (K * q + R) % K = R := by rw [Nat.mul_add_mod, Nat.mod_eq_of_lt hR]
  unfold g orOne
  rw [h1, h2]
theorem m2_le (x lo : Nat) (hx : x < 18446744073709551616) (hl : lo < 18446744073709551616) : x * lo / 18446744073709551616 ≤ 18446744073709551614 := by
  have h : x * lo ≤ 18446744073709551615 * 18446744073709551615 := Nat.mul_le_mul (by omega) (by omega)
  have h2 := Nat.div_le_div_right (c := 18446744073709551616) h
  have h3 : 18446744073709551615 * 18446744073709551615 / 18446744073709551616 = 18446744073709551614 := by decide
  omega
theorem us_a (hi lo s x : Nat) (hx : x < 18446744073709551616) (hl : lo < 18446744073709551616) (h : x * hi / 18446744073709551616 / 2 ^ s * 2 ^ s ≠ x * hi / 18446744073709551616) :
    usq hi lo s x = orOne (x * hi / 18446744073709551616 / 2 ^ s) := by
  have hM2 := m2_le x lo hx hl
  have hP := Nat.div_add_mod (x * hi) 18446744073709551616
  have hm := Nat.mod_lt (x * hi) (show 18446744073709551616 > 0 by decide)
  have hH := Nat.div_add_mod (x * hi / 18446744073709551616) (2 ^ s)
  have hr := Nat.mod_lt (x * hi / 18446744073709551616) (Nat.two_pow_pos s)
  unfold usq W
  rw [show (2 : Nat) ^ (64 + s) = 18446744073709551616 * 2 ^ s from Nat.pow_add 2 64 s, show (2 : Nat) ^ 64 = 18446744073709551616 from rfl]
  generalize x * lo / 18446744073709551616 = M2 at *
  generalize x * hi % 18446744073709551616 = M at *
  generalize x * hi / 18446744073709551616 = H at *
  generalize x * hi = P at *
  generalize 2 ^ s = Q at *
  generalize hq : H / Q = q at *
  generalize hrr : H % Q = r at *
  have hr1 : 1 ≤ r := by
    apply Nat.pos_of_ne_zero
    intro h0
    rw [h0, Nat.add_zero, Nat.mul_comm] at hH
    exact h hH
  have e : P - M2 = 18446744073709551616 * Q * q + (18446744073709551616 * r + M - M2) := by
    rw [← hP, ← hH, Nat.mul_add, ← Nat.mul_assoc]
    omega
  have hb : 18446744073709551616 * (r + 1) ≤ 18446744073709551616 * Q := Nat.mul_le_mul_left _ hr
  rw [e, g_form _ _ _ (by omega), if_pos (by omega)]
theorem us_b (hi lo s x : Nat) (h : x * hi / 18446744073709551616 / 2 ^ s * 2 ^ s = x * hi / 18446744073709551616) (h2 : ¬ x * hi % 18446744073709551616 < x * lo / 18446744073709551616) :
    usq hi lo s x = if x * hi % 18446744073709551616 - x * lo / 18446744073709551616 > 1 then orOne (x * hi / 18446744073709551616 / 2 ^ s) else x * hi / 18446744073709551616 / 2 ^ s := by
  have hP := Nat.div_add_mod (x * hi) 18446744073709551616
  have hm := Nat.mod_lt (x * hi) (show 18446744073709551616 > 0 by decide)
  have hQ := Nat.two_pow_pos s
  unfold usq W
  rw [show (2 : Nat) ^ (64 + s) = 18446744073709551616 * 2 ^ s from Nat.pow_add 2 64 s, show (2 : Nat) ^ 64 = 18446744073709551616 from rfl]
  generalize x * lo / 18446744073709551616 = M2 at *
  generalize x * hi % 18446744073709551616 = M at *
  generalize x * hi / 18446744073709551616 = H at *
  generalize x * hi = P at *
  generalize 2 ^ s = Q at *
  generalize hq : H / Q = q at *
  have e : P - M2 = 18446744073709551616 * Q * q + (M - M2) := by
    rw [← hP, ← h, Nat.mul_comm q Q, ← Nat.mul_assoc]
    omega
  have hb : 18446744073709551616 * 1 ≤ 18446744073709551616 * Q := Nat.mul_le_mul_left _ hQ
  rw [e, g_form _ _ _ (by omega)]
theorem us_c (hi lo s x : Nat) (hx : x < 18446744073709551616) (hl : lo < 18446744073709551616) (h : x * hi / 18446744073709551616 / 2 ^ s * 2 ^ s = x * hi / 18446744073709551616) (h2 : x * hi % 18446744073709551616 < x * lo / 18446744073709551616) (h1 : 1 ≤ x * hi / 18446744073709551616) :
    usq hi lo s x = orOne ((x * hi / 18446744073709551616 - 1) / 2 ^ s) := by
  have hM2 := m2_le x lo hx hl
  have hP := Nat.div_add_mod (x * hi) 18446744073709551616
  have hQ := Nat.two_pow_pos s
  unfold usq W
  rw [show (2 : Nat) ^ (64 + s) = 18446744073709551616 * 2 ^ s from Nat.pow_add 2 64 s, show (2 : Nat) ^ 64 = 18446744073709551616 from rfl]
  generalize x * lo / 18446744073709551616 = M2 at *
  generalize x * hi % 18446744073709551616 = M at *
  generalize x * hi / 18446744073709551616 = H at *
  generalize x * hi = P at *
  generalize 2 ^ s = Q at *
  generalize hq : H / Q = q at *
  obtain ⟨q', rfl⟩ : ∃ q', q = q' + 1 := ⟨q - 1, by
    have : q ≠ 0 := by
      rintro rfl
      omega
    omega⟩
  have hb : 18446744073709551616 * 1 ≤ 18446744073709551616 * Q := Nat.mul_le_mul_left _ hQ
  have hHQ : H = Q * q' + Q := by rw [← h, Nat.add_mul, Nat.mul_comm q' Q, Nat.one_mul]
  have e : P - M2 = 18446744073709551616 * Q * q' + (18446744073709551616 * Q - (M2 - M)) := by
    rw [← hP, hHQ, Nat.mul_add, ← Nat.mul_assoc]
    omega
  have e2 : (H - 1) / Q = q' := by
    rw [hHQ, show Q * q' + Q - 1 = Q * q' + (Q - 1) by omega, Nat.mul_add_div hQ, Nat.div_eq_of_lt (by omega), Nat.add_zero]
  rw [e, g_form _ _ _ (by omega), if_pos (by omega), e2]

/-- The middle is between the ends, in whole numbers too. -/
theorem in_plain (hi lo s z m : Nat) (hl : lo ≤ 18446744073709551616) (hh : 9223372036854775808 ≤ hi) (hz : 1 ≤ z) (hm : 1 ≤ m)
    (hw : 2 * 2 ^ (64 + s) + 2 ≤ 2 ^ (z - 1) * (hi - 1) ∨ lo = 0 ∧ 2 ^ (z - 1) * hi = 2 * 2 ^ (64 + s)) :
    dmin (usq hi lo s (m * 2 ^ z - 2 ^ (z - 1))) (m % 2) ≤ dmax (usq hi lo s (m * 2 ^ z + 2 ^ (z - 1))) (m % 2) ∧
    dmin (usq hi lo s (m * 2 ^ z - 2 ^ (z - 1))) (m % 2) ≤ rnd (usq hi lo s (m * 2 ^ z)) ∧ rnd (usq hi lo s (m * 2 ^ z)) ≤ dmax (usq hi lo s (m * 2 ^ z + 2 ^ (z - 1))) (m % 2) := by
  have hzz : 2 ^ z = 2 * 2 ^ (z - 1) := by
    rw [← Nat.pow_succ']
    congr 1
    omega
  rw [hzz]
  generalize hδ : 2 ^ (z - 1) = δ at *
  have hδ0 : 1 ≤ δ := by rw [← hδ]; exact Nat.two_pow_pos _
  have hK : 2 < 2 ^ (64 + s) := by
    have : (2 : Nat) ^ 64 ≤ 2 ^ (64 + s) := Nat.pow_le_pow_right (by decide) (by omega)
    omega
  unfold usq
  generalize 2 ^ (64 + s) = K at *
  have hle : δ ≤ m * (2 * δ) := by
    have : 1 * (2 * δ) ≤ m * (2 * δ) := Nat.mul_le_mul_right _ hm
    omega
  rcases hw with hw | ⟨rfl, hw⟩
  · have e1 := W_step hi lo (m * (2 * δ) - δ) δ hl (by omega)
    have e2 := W_step hi lo (m * (2 * δ)) δ hl (by omega)
    rw [Nat.sub_add_cancel hle] at e1
    have s1 := g_step K hK (show W hi lo (m * (2 * δ) - δ) + (2 * K + 2) ≤ W hi lo (m * (2 * δ)) by omega)
    have s2 := g_step K hK (show W hi lo (m * (2 * δ)) + (2 * K + 2) ≤ W hi lo (m * (2 * δ) + δ) by omega)
    exact between (by omega) s1.1 s1.2 s2.1 s2.2
  · have w : ∀ x, W hi 0 x = x * hi := fun x => by unfold W; simp
    have e2 : m * (2 * δ) * hi = 4 * m * K := by
      rw [Nat.mul_assoc, Nat.mul_assoc 2 δ hi, hw, ← Nat.mul_assoc, ← Nat.mul_assoc]
      congr 1
      omega
    have e1 : (m * (2 * δ) - δ) * hi = (4 * m - 2) * K := by
      rw [Nat.sub_mul, e2, hw, Nat.sub_mul]
    have e3 : (m * (2 * δ) + δ) * hi = (4 * m + 2) * K := by
      rw [Nat.add_mul, e2, hw, Nat.add_mul]
    rw [w, w, w, e1, e2, e3, g_mul _ _ (by omega), g_mul _ _ (by omega), g_mul _ _ (by omega)]
    unfold dmin dmax rnd
    rcases Nat.mod_two_eq_zero_or_one m with ho | ho <;> rw [ho] <;> refine ⟨by omega, by omega, by omega⟩
/-- Neighbours are apart. -/
theorem next_plain (hi lo s z m : Nat) (hl : lo ≤ 18446744073709551616) (hh : 9223372036854775808 ≤ hi) (hz : 1 ≤ z) (hs : s ≤ 58) (hm : 9223372036854775808 ≤ m * 2 ^ z) :
    dmax (usq hi lo s (m * 2 ^ z + 2 ^ (z - 1))) (m % 2) < dmin (usq hi lo s ((m + 1) * 2 ^ z - 2 ^ (z - 1))) ((m + 1) % 2) := by
  have hzz : 2 ^ z = 2 * 2 ^ (z - 1) := by
    rw [← Nat.pow_succ']
    congr 1
    omega
  have e : (m + 1) * 2 ^ z - 2 ^ (z - 1) = m * 2 ^ z + 2 ^ (z - 1) := by rw [Nat.add_mul]; omega
  rw [e, show (m + 1) % 2 = 1 - m % 2 by omega]
  exact apart (usq_pos hi lo s _ hl hh hs (by omega)) (by omega)

/-- A block of numbers: those of one binary exponent; the first of each apart. -/
structure Blk where
  i : Nat
  s : Nat
  z : Nat
  dn : Nat
  m0 : Nat
  m1 : Nat
  sk : Bool
def blk (j : Nat) : Blk :=
  if j ≤ 52 then ⟨672, 58 - j, 63 - j, 2 ^ (62 - j), 2 ^ j, 2 ^ (j + 1) - 1, false⟩
  else if (j - 53) % 2 = 0 then ⟨1348 - ((2 + (j - 53) / 2) * 631305 + 1418237462) / 2097152, 3083 - (2 + (j - 53) / 2) - ((1348 - ((2 + (j - 53) / 2) * 631305 + 1418237462) / 2097152) * 108853 + 27655156) / 32768, 11, 512, 4503599627370496, 4503599627370496, true⟩
  else ⟨1348 - ((2 + (j - 53) / 2) * 78913 + 177312525) / 262144, 3083 - (2 + (j - 53) / 2) - ((1348 - ((2 + (j - 53) / 2) * 78913 + 177312525) / 262144) * 108853 + 27655156) / 32768, 11, 1024, 4503599627370497, 9007199254740991, false⟩
def dmn (r : Nat × Nat) (b : Blk) (m : Nat) : Nat := dmin (usq r.1 r.2 b.s (m * 2 ^ b.z - b.dn)) (m % 2)
def dmx (r : Nat × Nat) (b : Blk) (m : Nat) : Nat := dmax (usq r.1 r.2 b.s (m * 2 ^ b.z + 2 ^ (b.z - 1))) (m % 2)
def drn (r : Nat × Nat) (b : Blk) (m : Nat) : Nat := rnd (usq r.1 r.2 b.s (m * 2 ^ b.z))
def pick (lo hi c : Nat) : Nat := if lo ≤ hi / 10 * 10 then hi / 10 * 10 else if lo < hi then c else lo
def d0 (r : Nat × Nat) (b : Blk) (m : Nat) : Nat := pick (dmn r b m) (dmx r b m) (drn r b m)
theorem pick_in {lo hi c : Nat} (h : lo ≤ hi) (h1 : lo ≤ c) (h2 : c ≤ hi) : lo ≤ pick lo hi c ∧ pick lo hi c ≤ hi := by
  unfold pick
  split
  · omega
  · split <;> omega

/-- What is looked at of each block. -/
def okB (T : Nat → Nat × Nat) (j : Nat) : Bool :=
  let b := blk j
  let r := T b.i
  Nat.ble 5 b.s && Nat.ble b.s 58 && Nat.ble 9223372036854775808 r.1 && Nat.ble r.1 18446744073709551615 && Nat.ble r.2 18446744073709551615 && Nat.ble b.i 748 &&
    (bif b.sk then Nat.ble (dmn r b b.m0) (d0 r b b.m0) && Nat.ble (d0 r b b.m0) (dmx r b b.m0)
      else Nat.ble (2 * 2 ^ (64 + b.s) + 2) (2 ^ (b.z - 1) * (r.1 - 1)) || (Nat.beq r.2 0 && Nat.beq (2 ^ (b.z - 1) * r.1) (2 * 2 ^ (64 + b.s))))
/-- And of each border. -/
def okC (T : Nat → Nat × Nat) (j : Nat) : Bool :=
  Nat.blt (dmx (T (blk j).i) (blk j) (blk j).m1 * 10 ^ (748 - (blk j).i)) (dmn (T (blk (j + 1)).i) (blk (j + 1)) (blk (j + 1)).m0 * 10 ^ (748 - (blk (j + 1)).i))

structure Ok (T : Nat → Nat × Nat) (j : Nat) : Prop where
  s0 : 5 ≤ (blk j).s
  s1 : (blk j).s ≤ 58
  i0 : (blk j).i ≤ 748
  hi0 : 9223372036854775808 ≤ (T (blk j).i).1
  hi1 : (T (blk j).i).1 < 18446744073709551616
  lo1 : (T (blk j).i).2 ≤ 18446744073709551616
  sk : (blk j).sk = true → dmn (T (blk j).i) (blk j) (blk j).m0 ≤ d0 (T (blk j).i) (blk j) (blk j).m0 ∧ d0 (T (blk j).i) (blk j) (blk j).m0 ≤ dmx (T (blk j).i) (blk j) (blk j).m0
  w : (blk j).sk = false → 2 * 2 ^ (64 + (blk j).s) + 2 ≤ 2 ^ ((blk j).z - 1) * ((T (blk j).i).1 - 1) ∨ (T (blk j).i).2 = 0 ∧ 2 ^ ((blk j).z - 1) * (T (blk j).i).1 = 2 * 2 ^ (64 + (blk j).s)
theorem ok_of (T : Nat → Nat × Nat) (j : Nat) (h : okB T j = true) : Ok T j := by
  unfold okB at h
  simp only [Bool.and_eq_true, Nat.ble_eq] at h
  obtain ⟨⟨⟨⟨⟨⟨h1, h2⟩, h3⟩, h4⟩, h5⟩, h6⟩, h7⟩ := h
  refine ⟨h1, h2, h6, h3, by omega, by omega, fun hs => ?_, fun hs => ?_⟩
  · rw [hs] at h7
    simp only [cond_true, Bool.and_eq_true, Nat.ble_eq] at h7
    exact h7
  · rw [hs] at h7
    simp only [cond_false, Bool.or_eq_true, Bool.and_eq_true, Nat.ble_eq, Nat.beq_eq] at h7
    exact h7
/-- The form of a block. -/
theorem blk_form (j : Nat) : (blk j).m0 ≤ (blk j).m1 ∧ 1 ≤ (blk j).z ∧ 1 ≤ (blk j).m0 ∧ ((blk j).sk = true → (blk j).m0 = (blk j).m1) ∧ ((blk j).sk = false → (blk j).dn = 2 ^ ((blk j).z - 1)) ∧ ∀ m, (blk j).m0 ≤ m → 9223372036854775808 ≤ m * 2 ^ (blk j).z := by
  unfold blk
  split
  · next h =>
    have hp : (2 : Nat) ^ (j + 1) = 2 * 2 ^ j := Nat.pow_succ'
    have h1 := Nat.two_pow_pos j
    refine ⟨by dsimp only; omega, by dsimp only; omega, h1, fun h => (by cases h), fun _ => ?_, fun m hm => ?_⟩
    · dsimp only
      congr 1
      omega
    · have a : 2 ^ j * 2 ^ (63 - j) ≤ m * 2 ^ (63 - j) := Nat.mul_le_mul_right _ hm
      rw [← Nat.pow_add, show j + (63 - j) = 63 by omega] at a
      exact a
  · split
    · refine ⟨Nat.le_refl _, (by decide : 1 ≤ 11), (by decide : 1 ≤ 4503599627370496), fun _ => rfl, fun h => (by cases h), fun m hm => ?_⟩
      dsimp only at hm ⊢
      omega
    · refine ⟨(by decide : 4503599627370497 ≤ 9007199254740991), (by decide : 1 ≤ 11), (by decide : 1 ≤ 4503599627370497), fun h => (by cases h), fun _ => rfl, fun m hm => ?_⟩
      dsimp only at hm ⊢
      omega

section
variable {T : Nat → Nat × Nat}
def In (j m : Nat) : Prop := j < 4143 ∧ (blk j).m0 ≤ m ∧ m ≤ (blk j).m1
theorem d0_in {j m : Nat} (h : Ok T j) (hm : In j m) : dmn (T (blk j).i) (blk j) m ≤ d0 (T (blk j).i) (blk j) m ∧ d0 (T (blk j).i) (blk j) m ≤ dmx (T (blk j).i) (blk j) m := by
  obtain ⟨f1, f2, f3, f4, f5, f6⟩ := blk_form j
  cases hs : (blk j).sk with
  | true =>
    have e : m = (blk j).m0 := by have := f4 hs; have := hm.2.1; have := hm.2.2; omega
    rw [e]
    exact h.sk hs
  | false =>
    have := in_plain _ _ (blk j).s (blk j).z m h.lo1 h.hi0 f2 (by have := hm.2.1; omega) (h.w hs)
    rw [← f5 hs] at this
    rw [f5 hs] at this
    unfold d0 dmn dmx drn
    rw [f5 hs]
    exact pick_in this.1 this.2.1 this.2.2
theorem next_in {j m : Nat} (h : Ok T j) (hm : In j m) (hm2 : In j (m + 1)) : dmx (T (blk j).i) (blk j) m < dmn (T (blk j).i) (blk j) (m + 1) := by
  obtain ⟨f1, f2, f3, f4, f5, f6⟩ := blk_form j
  cases hs : (blk j).sk with
  | true =>
    have := f4 hs; have := hm.2.1; have := hm2.2.2; omega
  | false =>
    have := next_plain _ _ (blk j).s (blk j).z m h.lo1 h.hi0 f2 h.s1 (f6 m hm.2.1)
    unfold dmn dmx
    rw [f5 hs]
    exact this
theorem up_in {j m : Nat} (h : Ok T j) (k : Nat) (hm : In j m) (hm2 : In j (m + 1 + k)) : dmx (T (blk j).i) (blk j) m < dmn (T (blk j).i) (blk j) (m + 1 + k) := by
  induction k with
  | zero => exact next_in h hm hm2
  | succ k ih =>
    have hk : In j (m + 1 + k) := ⟨hm.1, by have := hm.2.1; omega, by have := hm2.2.2; omega⟩
    have a := ih hk
    have b := d0_in h hk
    have c := next_in h hk hm2
    show _ < dmn _ _ (m + 1 + k + 1)
    omega
/-- A number's value, times 10^400. -/
def vl (T : Nat → Nat × Nat) (j m : Nat) : Nat := d0 (T (blk j).i) (blk j) m * 10 ^ (748 - (blk j).i)
theorem vl_in {j m m' : Nat} (h : Ok T j) (hm : In j m) (hm' : In j m') (hlt : m < m') : vl T j m < vl T j m' := by
  obtain ⟨k, rfl⟩ : ∃ k, m' = m + 1 + k := ⟨m' - m - 1, by omega⟩
  have a := (d0_in h hm).2
  have b := up_in h k hm hm'
  have c := (d0_in h hm').1
  unfold vl
  exact Nat.mul_lt_mul_of_pos_right (by omega) (Nat.pow_pos (by decide))
theorem m0_in {j : Nat} (hj : j < 4143) : In j (blk j).m0 := ⟨hj, Nat.le_refl _, (blk_form j).1⟩
theorem m1_in {j : Nat} (hj : j < 4143) : In j (blk j).m1 := ⟨hj, (blk_form j).1, Nat.le_refl _⟩
def bot (T : Nat → Nat × Nat) (j : Nat) : Nat := dmn (T (blk j).i) (blk j) (blk j).m0 * 10 ^ (748 - (blk j).i)
def top (T : Nat → Nat × Nat) (j : Nat) : Nat := dmx (T (blk j).i) (blk j) (blk j).m1 * 10 ^ (748 - (blk j).i)
theorem bot_le {j m : Nat} (h : Ok T j) (hm : In j m) : bot T j ≤ vl T j m := by
  unfold bot vl
  apply Nat.mul_le_mul_right
  rcases Nat.lt_or_ge (blk j).m0 m with hlt | hge
  · obtain ⟨k, rfl⟩ : ∃ k, m = (blk j).m0 + 1 + k := ⟨m - (blk j).m0 - 1, by omega⟩
    have a := up_in h k (m0_in hm.1) hm
    have b := d0_in h (m0_in hm.1)
    have c := d0_in h hm
    omega
  · have e : m = (blk j).m0 := by have := hm.2.1; omega
    rw [e]
    exact (d0_in h (m0_in hm.1)).1
theorem le_top {j m : Nat} (h : Ok T j) (hm : In j m) : vl T j m ≤ top T j := by
  unfold top vl
  apply Nat.mul_le_mul_right
  rcases Nat.lt_or_ge m (blk j).m1 with hlt | hge
  · obtain ⟨k, hk⟩ : ∃ k, (blk j).m1 = m + 1 + k := ⟨(blk j).m1 - m - 1, by omega⟩
    have a := up_in h k hm (by rw [← hk]; exact m1_in hm.1)
    rw [← hk] at a
    have b := d0_in h (m1_in hm.1)
    have c := d0_in h hm
    omega
  · have e : m = (blk j).m1 := by have := hm.2.2; omega
    rw [e]
    exact (d0_in h (m1_in hm.1)).2
/-- Another block is apart, too. -/
theorem far (hok : ∀ j, j < 4143 → Ok T j) (hbd : ∀ j, j + 1 < 4143 → top T j < bot T (j + 1)) (j k : Nat) (hj : j + 1 + k < 4143) : top T j < bot T (j + 1 + k) := by
  induction k with
  | zero => exact hbd j hj
  | succ k ih =>
    have a := ih (by omega)
    have b := bot_le (hok (j + 1 + k) (by omega)) (m0_in (show j + 1 + k < 4143 by omega))
    have c := le_top (hok (j + 1 + k) (by omega)) (m0_in (show j + 1 + k < 4143 by omega))
    have d := hbd (j + 1 + k) (by omega)
    show _ < bot T (j + 1 + k + 1)
    omega
theorem vl_far (hok : ∀ j, j < 4143 → Ok T j) (hbd : ∀ j, j + 1 < 4143 → top T j < bot T (j + 1)) {j m j' m' : Nat} (hm : In j m) (hm' : In j' m') (hlt : j < j') : vl T j m < vl T j' m' := by
  obtain ⟨k, rfl⟩ : ∃ k, j' = j + 1 + k := ⟨j' - j - 1, by omega⟩
  have a := far hok hbd j k hm'.1
  have b := bot_le (hok _ hm'.1) hm'
  have c := le_top (hok _ hm.1) hm
  omega
theorem vl_inj (hok : ∀ j, j < 4143 → Ok T j) (hbd : ∀ j, j + 1 < 4143 → top T j < bot T (j + 1)) {j m j' m' : Nat} (hm : In j m) (hm' : In j' m') (h : vl T j m = vl T j' m') : j = j' ∧ m = m' := by
  rcases Nat.lt_trichotomy j j' with h1 | rfl | h1
  · have := vl_far hok hbd hm hm' h1; omega
  · refine ⟨rfl, ?_⟩
    rcases Nat.lt_trichotomy m m' with h2 | h2 | h2
    · have := vl_in (hok _ hm.1) hm hm' h2; omega
    · exact h2
    · have := vl_in (hok _ hm.1) hm' hm h2; omega
  · have := vl_far hok hbd hm' hm h1; omega
end
/-- The least d of a block is above 0, so is each. -/
theorem vl_pos {T : Nat → Nat × Nat} {j m : Nat} (h : Ok T j) (hm : In j m) (h1 : 1 ≤ dmn (T (blk j).i) (blk j) m) : 1 ≤ vl T j m := by
  have := (d0_in h hm).1
  unfold vl
  exact Nat.mul_pos (by omega) (Nat.pow_pos (by decide))
theorem blk_lo {j : Nat} (h : j ≤ 52) : blk j = ⟨672, 58 - j, 63 - j, 2 ^ (62 - j), 2 ^ j, 2 ^ (j + 1) - 1, false⟩ := if_pos h
theorem blk_sk {j : Nat} (h : ¬ j ≤ 52) (h2 : (j - 53) % 2 = 0) : blk j = ⟨1348 - ((2 + (j - 53) / 2) * 631305 + 1418237462) / 2097152, 3083 - (2 + (j - 53) / 2) - ((1348 - ((2 + (j - 53) / 2) * 631305 + 1418237462) / 2097152) * 108853 + 27655156) / 32768, 11, 512, 4503599627370496, 4503599627370496, true⟩ := (if_neg h).trans (if_pos h2)
theorem blk_no {j : Nat} (h : ¬ j ≤ 52) (h2 : ¬ (j - 53) % 2 = 0) : blk j = ⟨1348 - ((2 + (j - 53) / 2) * 78913 + 177312525) / 262144, 3083 - (2 + (j - 53) / 2) - ((1348 - ((2 + (j - 53) / 2) * 78913 + 177312525) / 262144) * 108853 + 27655156) / 32768, 11, 1024, 4503599627370497, 9007199254740991, false⟩ := (if_neg h).trans (if_neg h2)
end Go.Proofs.YtaaogjhaokaggaaGreatDoor.Inj
