/- Plain: a reader of a number's text: what it reads of the digits d and the place p is d * 10^p. -/
import Derived.Test.YtaaogjhaokaggaaGreatDoorFtoaX
namespace Go.Proofs.YtaaogjhaokaggaaGreatDoor
open Go.Lib

/-- The number that digits say; a point is passed over. -/
def dval : Nat → List UInt8 → Nat
  | a, [] => a
  | a, c :: l => dval (if c = 46 then a else a * 10 + (c.toNat - 48)) l
theorem dval_append (l m : List UInt8) : ∀ a, dval a (l ++ m) = dval (dval a l) m := by
  induction l with
  | nil => intro a; rfl
  | cons c l ih => intro a; exact ih _
theorem dval_zeros (n : Nat) : ∀ a, dval a (List.replicate n 48) = a * 10 ^ n := by
  induction n with
  | zero => intro a; simp [dval]
  | succ n ih =>
    intro a
    rw [List.replicate_succ]
    show dval (a * 10 + 0) _ = _
    rw [ih, Nat.pow_succ, Nat.add_zero, Nat.mul_assoc, Nat.mul_comm 10]
/-- Digits alone. -/
def Dgs (l : List UInt8) : Prop := ∀ c ∈ l, 48 ≤ c.toNat ∧ c.toNat ≤ 57
theorem Dgs.append {l m : List UInt8} (h : Dgs l) (h2 : Dgs m) : Dgs (l ++ m) := fun c hc => (List.mem_append.1 hc).elim (h c) (h2 c)
theorem Dgs.nil : Dgs [] := fun _ h => by cases h
theorem dgs_zeros (n : Nat) : Dgs (List.replicate n 48) := fun c hc => by rw [(List.mem_replicate.1 hc).2]; decide
theorem Dgs.sub {l m : List UInt8} (h : Dgs l) (hs : ∀ c ∈ m, c ∈ l) : Dgs m := fun c hc => h c (hs c hc)
theorem dig_byte (k : Nat) (hk : k < 10) : (UInt8.ofNat (48 + k)).toNat = 48 + k := by
  rw [UInt8.toNat_ofNat']
  omega
theorem ne46 {c : UInt8} (h : 48 ≤ c.toNat) : c ≠ 46 := by
  rintro rfl
  exact absurd h (by decide)
theorem dval_one (a k : Nat) (hk : k < 10) (l : List UInt8) : dval a (UInt8.ofNat (48 + k) :: l) = dval (a * 10 + k) l := by
  have e := dig_byte k hk
  show dval (if UInt8.ofNat (48 + k) = 46 then a else a * 10 + ((UInt8.ofNat (48 + k)).toNat - 48)) l = _
  rw [if_neg (ne46 (by rw [e]; omega)), e]
  congr 2
  omega
theorem dval_dec (u : Nat) : dval 0 (decDigits u) = u := by
  induction u using Nat.strongRecOn with
  | _ u ih =>
    by_cases h : u < 10
    · rw [decDigits, dif_pos h, dval_one 0 u h]
      simp [dval]
    · rw [decDigits, dif_neg h, dval_append, ih (u / 10) (by omega), dval_one _ _ (by omega)]
      show u / 10 * 10 + u % 10 = u
      omega
theorem dgs_dec (u : Nat) : Dgs (decDigits u) := by
  induction u using Nat.strongRecOn with
  | _ u ih =>
    by_cases h : u < 10
    · rw [decDigits, dif_pos h]
      intro c hc
      rw [List.mem_singleton.1 hc, dig_byte u h]
      omega
    · rw [decDigits, dif_neg h]
      refine (ih (u / 10) (by omega)).append ?_
      intro c hc
      rw [List.mem_singleton.1 hc, dig_byte _ (by omega)]
      omega
theorem digs_eq (d : Nat) (h : d ≠ 0) : digs d = decDigits d := by
  rw [decDigits_eq]
  unfold digs nD
  rw [if_neg h]
/-- The digits with the zeros behind. -/
theorem dig_zeros (d : Nat) (h : d ≠ 0) : decDigits d = dig d ++ List.replicate (nD d - (dig d).length) 48 := by
  have e : decDigits d = trimZ (decDigits d) ++ ((decDigits d).reverse.takeWhile (· == 48)).reverse := by
    unfold trimZ
    rw [← List.reverse_append, List.takeWhile_append_dropWhile, List.reverse_reverse]
  have hd : dig d = trimZ (decDigits d) := by unfold dig; rw [digs_eq d h]
  rw [← hd] at e
  have hl := congrArg List.length e
  rw [List.length_append, decDigits_length] at hl
  have hr : ((decDigits d).reverse.takeWhile (· == 48)).reverse = List.replicate (nD d - (dig d).length) 48 := by
    rw [List.eq_replicate_iff]
    refine ⟨by unfold nD; rw [if_neg h]; omega, fun b hb => ?_⟩
    rw [List.mem_reverse] at hb
    have := List.all_eq_true.1 (List.all_takeWhile (l := (decDigits d).reverse) (p := (· == 48))) b hb
    simpa using this
  rw [hr] at e
  exact e
theorem dgs_dig (d : Nat) (h : d ≠ 0) : Dgs (dig d) := (dgs_dec d).sub fun c hc => by rw [dig_zeros d h]; exact List.mem_append_left _ hc
theorem dval_dig (d : Nat) (h : d ≠ 0) : dval 0 (dig d) * 10 ^ (nD d - (dig d).length) = d := by
  have := dval_dec d
  rw [dig_zeros d h, dval_append, dval_zeros] at this
  exact this
theorem dig_ne (d : Nat) (h : d ≠ 0) : dig d ≠ [] := by
  intro e
  have := dval_dig d h
  rw [e] at this
  simp [dval] at this
  omega

/-- The exponent's number. -/
def exi : List UInt8 → Int
  | 101 :: 43 :: t => (dval 0 t : Int)
  | 101 :: 45 :: t => -(dval 0 t : Int)
  | _ => 0
/-- The reader: times 10^400. -/
def rd (l : List UInt8) : Nat := dval 0 (l.takeWhile (· != 101)) * 10 ^ (400 + exi (l.dropWhile (· != 101)) - (((l.takeWhile (· != 101)).dropWhile (· != 46)).length - 1 : Nat)).toNat
theorem rd_form (A B X : List UInt8) (b : Prop) [Decidable b] (hA : Dgs A) (hB : Dgs B) (hX : X = [] ∨ ∃ t, X = 101 :: t) :
    rd (A ++ (if b then 46 :: B else []) ++ X) = dval 0 (A ++ if b then B else []) * 10 ^ (400 + exi X - (if b then B.length else 0 : Nat)).toNat := by
  have hx1 : X.takeWhile (· != 101) = [] := by rcases hX with rfl | ⟨t, rfl⟩ <;> simp
  have hx2 : X.dropWhile (· != 101) = X := by rcases hX with rfl | ⟨t, rfl⟩ <;> simp
  have n1 : ∀ l, Dgs l → ∀ c ∈ l, (c != 101) = true := fun l hl c hc => by
    have := hl c hc
    rw [bne_iff_ne]
    rintro rfl
    exact absurd this.2 (by decide)
  have n2 : ∀ l, Dgs l → ∀ c ∈ l, (c != 46) = true := fun l hl c hc => by
    rw [bne_iff_ne]
    exact ne46 (hl c hc).1
  unfold rd
  by_cases hb : b
  · simp only [if_pos hb]
    have hM : ∀ c ∈ A ++ 46 :: B, (c != 101) = true := by
      intro c hc
      rcases List.mem_append.1 hc with h | h
      · exact n1 A hA c h
      · rcases List.mem_cons.1 h with rfl | h
        · decide
        · exact n1 B hB c h
    rw [List.takeWhile_append_of_pos hM, List.dropWhile_append_of_pos hM, hx1, hx2, List.append_nil, List.dropWhile_append_of_pos (n2 A hA)]
    have hv : dval 0 (A ++ 46 :: B) = dval 0 (A ++ B) := by rw [dval_append, dval_append]; rfl
    rw [hv]
    simp
  · simp only [if_neg hb, List.append_nil]
    rw [List.takeWhile_append_of_pos (n1 A hA), List.dropWhile_append_of_pos (n1 A hA), hx1, hx2, List.append_nil]
    have : A.dropWhile (· != 46) = [] := by
      have := List.dropWhile_append_of_pos (l₂ := []) (n2 A hA)
      simpa using this
    rw [this]
    simp
theorem exp_val (x : Nat) (hx : x < 1000) : dval 0 (expD x) = x := by
  unfold expD
  split
  · show dval (0 * 10 + 0) [UInt8.ofNat (48 + x)] = x
    rw [dval_one _ _ (by omega)]
    simp [dval]
  · split
    · rw [dval_one _ _ (by omega), dval_one _ _ (by omega)]
      simp only [dval]; omega
    · rw [dval_one _ _ (by omega), dval_one _ _ (by omega), dval_one _ _ (by omega)]
      simp only [dval]; omega
theorem rd_e (ds : List UInt8) (dp : Int) (hn : ds ≠ []) (hD : Dgs ds) (h0 : -900 ≤ dp) (h1 : dp ≤ 900) : rd (eText false ds dp) = dval 0 ds * 10 ^ (400 + dp - ds.length).toNat := by
  have e : eText false ds dp = [ds.headD 48] ++ (if 2 ≤ ds.length then 46 :: ds.drop 1 else []) ++ (101 :: ((if ds = [] ∨ 1 ≤ dp then [43] else [45]) ++ expD (if ds = [] then 0 else (dp - 1).natAbs))) := by
    unfold eText
    simp
  have hx : exi (101 :: ((if ds = [] ∨ 1 ≤ dp then [43] else [45]) ++ expD (if ds = [] then 0 else (dp - 1).natAbs))) = dp - 1 := by
    rw [if_neg hn]
    have hv := exp_val (dp - 1).natAbs (by omega)
    by_cases h : 1 ≤ dp
    · rw [if_pos (.inr h)]
      show (dval 0 (expD _) : Int) = _
      rw [hv]; omega
    · rw [if_neg (by simp [hn, h])]
      show -(dval 0 (expD _) : Int) = _
      rw [hv]; omega
  have hh : Dgs [ds.headD 48] := by
    intro c hc
    rw [List.mem_singleton.1 hc]
    cases ds with
    | nil => exact absurd rfl hn
    | cons a t => exact hD a (by simp)
  rw [e, rd_form _ _ _ _ hh (hD.sub fun c hc => List.mem_of_mem_drop hc) (.inr ⟨_, rfl⟩), hx]
  match ds, hn with
  | [c], _ =>
    simp
    congr 2
    omega
  | c :: d :: r, _ =>
    have h2 : 2 ≤ (c :: d :: r).length := by simp
    simp only [if_pos h2]
    congr 2
    simp
    omega
theorem rd_f (ds : List UInt8) (dp : Int) (hn : ds ≠ []) (hD : Dgs ds) : rd (fText false ds dp) = dval 0 ds * 10 ^ (400 + dp - ds.length).toNat := by
  have hl : 1 ≤ ds.length := by cases ds with
    | nil => exact absurd rfl hn
    | cons a t => simp
  have e : fText false ds dp = (if 0 < dp then ds.take dp.toNat ++ List.replicate (dp.toNat - ds.length) 48 else [48]) ++ (if dp < ds.length then 46 :: (List.replicate (-dp).toNat 48 ++ ds.drop dp.toNat) else []) ++ [] := by
    unfold fText
    simp
  have hA : Dgs (if 0 < dp then ds.take dp.toNat ++ List.replicate (dp.toNat - ds.length) 48 else [48]) := by
    split
    · exact (hD.sub fun c hc => List.mem_of_mem_take hc).append (dgs_zeros _)
    · exact dgs_zeros 1
  have hB : Dgs (List.replicate (-dp).toNat 48 ++ ds.drop dp.toNat) := (dgs_zeros _).append (hD.sub fun c hc => List.mem_of_mem_drop hc)
  rw [e, rd_form _ _ _ _ hA hB (.inl rfl), show exi [] = 0 from rfl]
  by_cases h0 : 0 < dp
  · simp only [if_pos h0]
    have hz : (-dp).toNat = 0 := by omega
    by_cases h1 : dp < ds.length
    · simp only [if_pos h1]
      have hz2 : dp.toNat - ds.length = 0 := by omega
      rw [hz, hz2]
      simp only [List.replicate_zero, List.append_nil, List.nil_append, List.take_append_drop, List.length_drop]
      congr 2
      omega
    · simp only [if_neg h1, List.append_nil]
      rw [List.take_of_length_le (by omega), dval_append, dval_zeros, Nat.mul_assoc, ← Nat.pow_add]
      congr 2
      omega
  · simp only [if_neg h0]
    have h1 : dp < ds.length := by omega
    have hz : dp.toNat = 0 := by omega
    simp only [if_pos h1, hz, List.drop_zero]
    have e1 : dval 0 ([48] ++ (List.replicate (-dp).toNat 48 ++ ds)) = dval 0 ds := by
      rw [dval_append, dval_append, show dval 0 [48] = 0 from rfl, dval_zeros, Nat.zero_mul]
    rw [e1]
    congr 2
    simp
    omega
/-- What is read of the digits d at the place p. -/
theorem rd_g (d : Nat) (p : Int) (hd : d ≠ 0) (hd2 : d < 18446744073709551616) (h0 : -400 ≤ p) (h1 : p ≤ 500) : rd (gText false (dig d) ((nD d : Int) + p)) = d * 10 ^ (400 + p).toNat := by
  have hl := dig_length_le d
  have h20 := nD_le d hd2
  have e : rd (gText false (dig d) ((nD d : Int) + p)) = dval 0 (dig d) * 10 ^ (400 + ((nD d : Int) + p) - (dig d).length).toNat := by
    unfold gText
    split
    · exact rd_e _ _ (dig_ne d hd) (dgs_dig d hd) (by omega) (by omega)
    · exact rd_f _ _ (dig_ne d hd) (dgs_dig d hd)
  rw [e]
  have hv := dval_dig d hd
  have : (400 + ((nD d : Int) + p) - (dig d).length).toNat = (nD d - (dig d).length) + (400 + p).toNat := by omega
  rw [this, Nat.pow_add, ← Nat.mul_assoc, hv]

/-- The sign ahead. -/
theorem g_sign (neg : Bool) (ds : List UInt8) (dp : Int) : gText neg ds dp = (if neg then [45] else []) ++ gText false ds dp := by
  cases neg <;> (unfold gText; split <;> simp [eText, fText])
theorem g_head (ds : List UInt8) (dp : Int) (hD : Dgs ds) : ∃ c l, gText false ds dp = c :: l ∧ 48 ≤ c.toNat ∧ c.toNat ≤ 57 := by
  unfold gText
  split
  · refine ⟨ds.headD 48, _, by unfold eText; rfl, ?_⟩
    cases ds with
    | nil => decide
    | cons a t => exact hD a (by simp)
  · have head_of : ∀ A B : List UInt8, Dgs A → A ≠ [] → ∃ c l, A ++ B = c :: l ∧ 48 ≤ c.toNat ∧ c.toNat ≤ 57 := by
      intro A B hA hne
      cases A with
      | nil => exact absurd rfl hne
      | cons a t => exact ⟨a, t ++ B, rfl, hA a (by simp)⟩
    have e : fText false ds dp = (if 0 < dp then ds.take dp.toNat ++ List.replicate (dp.toNat - ds.length) 48 else [48]) ++ (if dp < ds.length then [46] ++ List.replicate (-dp).toNat 48 ++ ds.drop dp.toNat else []) := by
      unfold fText
      simp
    rw [e]
    refine head_of _ _ ?_ ?_
    · split
      · exact (hD.sub fun c hc => List.mem_of_mem_take hc).append (dgs_zeros _)
      · exact dgs_zeros 1
    · split
      · intro h
        have h2 := congrArg List.length h
        rw [List.length_append, List.length_take, List.length_replicate, List.length_nil] at h2
        omega
      · simp
theorem dgs_any (d : Nat) : Dgs (dig d) := by
  by_cases h : d = 0
  · subst h
    exact Dgs.nil
  · exact dgs_dig d h
theorem g_inj {neg neg' : Bool} {ds ds' : List UInt8} {dp dp' : Int} (hD : Dgs ds) (hD' : Dgs ds') (h : gText neg ds dp = gText neg' ds' dp') : neg = neg' ∧ gText false ds dp = gText false ds' dp' := by
  obtain ⟨c, l, hc, b1, b2⟩ := g_head ds dp hD
  obtain ⟨c', l', hc', b1', b2'⟩ := g_head ds' dp' hD'
  rw [g_sign neg, g_sign neg', hc, hc'] at h
  rw [hc, hc']
  cases neg <;> cases neg' <;> simp at h
  · exact ⟨rfl, by rw [h.1, h.2]⟩
  · rw [h.1] at b1
    exact absurd b1 (by decide)
  · rw [← h.1] at b1'
    exact absurd b1' (by decide)
  · exact ⟨rfl, by rw [h.1, h.2]⟩
end Go.Proofs.YtaaogjhaokaggaaGreatDoor
