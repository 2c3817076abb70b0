/- Plain: two values are written the same just if they are the same (of two zeros of a float, each sign for itself). -/
import Derived.Test.YtaaogjhaokaggaaGreatDoorFltZA
namespace Go.Proofs.YtaaogjhaokaggaaGreatDoor
open Go.Lib

/-! ### Numbers -/
theorem rd_zero : rd (gText false [] 0) = 0 := by
  unfold rd
  rw [show (gText false [] 0).takeWhile (· != 101) = [48] by decide, show dval 0 [48] = 0 from rfl, Nat.zero_mul]
theorem neg_of {n : Nat} (hn : n < 18446744073709551616) : ((n : Int) / 9223372036854775808 != 0) = decide (9223372036854775808 ≤ n) := by
  by_cases h : 9223372036854775808 ≤ n
  · rw [decide_eq_true h]
    rw [bne_iff_ne]
    omega
  · rw [decide_eq_false h]
    have : (n : Int) / 9223372036854775808 = 0 := by omega
    rw [this]
    rfl
theorem same_word {n n' : Nat} (hn : n < 18446744073709551616) (hn' : n' < 18446744073709551616) (hs : ((n : Int) / 9223372036854775808 != 0) = ((n' : Int) / 9223372036854775808 != 0)) (h : n % 9223372036854775808 = n' % 9223372036854775808) : n = n' := by
  rw [neg_of hn, neg_of hn'] at hs
  by_cases h1 : 9223372036854775808 ≤ n <;> by_cases h2 : 9223372036854775808 ≤ n'
  · omega
  · rw [decide_eq_true h1, decide_eq_false h2] at hs; cases hs
  · rw [decide_eq_false h1, decide_eq_true h2] at hs; cases hs
  · omega
theorem ftext_inj {n n' : Nat} (hn : n < 18446744073709551616) (hn' : n' < 18446744073709551616) {r : List UInt8} (h : FText n r) (h' : FText n' r) : n = n' := by
  rcases h with ⟨z, e⟩ | ⟨d, p, j, mm, hI, hw, hd, hd2, hp0, hp1, hv, e⟩
  · rcases h' with ⟨z', e'⟩ | ⟨d', p', j', mm', hI', hw', hd', hd2', hp0', hp1', hv', e'⟩
    · have := g_inj Dgs.nil Dgs.nil (e.symm.trans e')
      exact same_word hn hn' this.1 (by omega)
    · have := g_inj Dgs.nil (dgs_any d') (e.symm.trans e')
      have h2 := congrArg rd this.2
      rw [rd_zero, rd_g d' p' hd' hd2' hp0' hp1', hv'] at h2
      have := vlP_pos hI'
      omega
  · rcases h' with ⟨z', e'⟩ | ⟨d', p', j', mm', hI', hw', hd', hd2', hp0', hp1', hv', e'⟩
    · have := g_inj (dgs_any d) Dgs.nil (e.symm.trans e')
      have h2 := congrArg rd this.2
      rw [rd_zero, rd_g d p hd hd2 hp0 hp1, hv] at h2
      have := vlP_pos hI
      omega
    · have := g_inj (dgs_any d) (dgs_any d') (e.symm.trans e')
      have h2 := congrArg rd this.2
      rw [rd_g d p hd hd2 hp0 hp1, rd_g d' p' hd' hd2' hp0' hp1', hv, hv'] at h2
      obtain ⟨rfl, rfl⟩ := vlP_inj hI hI' h2
      exact same_word hn hn' this.1 (hw.symm.trans hw')
theorem fTx_inj {n n' : Nat} (h : finOk n) (h' : finOk n') (e : fTx n = fTx n') : n = n' :=
  ftext_inj h.1 h'.1 (fTx_text n h) (by rw [e]; exact fTx_text n' h')

/-! ### The last sign -/
theorem fText_last (ds : List UInt8) (dp : Int) (hD : Dgs ds) (neg : Bool) : ∃ l c, fText neg ds dp = l ++ [c] ∧ 48 ≤ c.toNat ∧ c.toNat ≤ 57 := by
  have key : ∀ (A B : List UInt8), Dgs B → B ≠ [] → ∃ l c, A ++ B = l ++ [c] ∧ 48 ≤ c.toNat ∧ c.toNat ≤ 57 := by
    intro A B hB hne
    have h := List.dropLast_concat_getLast hne
    refine ⟨A ++ B.dropLast, B.getLast hne, by rw [List.append_assoc, h], hB _ (List.getLast_mem hne)⟩
  unfold fText
  by_cases h1 : dp < ds.length
  · rw [if_pos h1, ← List.append_assoc, ← List.append_assoc]
    by_cases hne : ds.drop dp.toNat = []
    · have hl := congrArg List.length hne
      simp at hl
      have : dp ≤ 0 := by omega
      have h0 : dp.toNat = 0 := by omega
      rw [hne, List.append_nil]
      by_cases hz : (-dp).toNat = 0
      · omega
      · refine key _ (List.replicate (-dp).toNat 48) (dgs_zeros _) ?_
        intro e
        have := congrArg List.length e
        simp at this
        omega
    · exact key _ _ (hD.sub fun c hc => List.mem_of_mem_drop hc) hne
  · rw [if_neg h1, List.append_nil]
    refine key _ _ ?_ ?_
    · split
      · exact (hD.sub fun c hc => List.mem_of_mem_take hc).append (dgs_zeros _)
      · exact dgs_zeros 1
    · split
      · intro h
        have h2 := congrArg List.length h
        rw [List.length_append, List.length_take, List.length_replicate, List.length_nil] at h2
        omega
      · simp
theorem expD_last (x : Nat) : ∃ l c, expD x = l ++ [c] ∧ 48 ≤ c.toNat ∧ c.toNat ≤ 57 := by
  unfold expD
  split
  · next h => exact ⟨[48], UInt8.ofNat (48 + x), rfl, by rw [dig_byte x h]; omega, by rw [dig_byte x h]; omega⟩
  · split
    · next h => exact ⟨[UInt8.ofNat (48 + x / 10)], UInt8.ofNat (48 + x % 10), rfl, by rw [dig_byte _ (by omega)]; omega, by rw [dig_byte _ (by omega)]; omega⟩
    · next h => exact ⟨[UInt8.ofNat (48 + x / 100), UInt8.ofNat (48 + x / 10 % 10)], UInt8.ofNat (48 + x % 10), rfl, by rw [dig_byte _ (by omega)]; omega, by rw [dig_byte _ (by omega)]; omega⟩
theorem g_last (neg : Bool) (ds : List UInt8) (dp : Int) (hD : Dgs ds) : ∃ l c, gText neg ds dp = l ++ [c] ∧ 48 ≤ c.toNat ∧ c.toNat ≤ 57 := by
  unfold gText
  split
  · obtain ⟨l, c, h, hc⟩ := expD_last (if ds = [] then 0 else (dp - 1).natAbs)
    unfold eText
    rw [h]
    exact ⟨_, c, (List.append_assoc _ _ _).symm, hc⟩
  · exact fText_last ds dp hD neg
theorem fTx_last {n : Nat} (h : finOk n) : ∃ l c, fTx n = l ++ [c] ∧ 48 ≤ c.toNat ∧ c.toNat ≤ 57 := by
  rcases fTx_text n h with ⟨_, e⟩ | ⟨d, p, j, mm, _, _, _, _, _, _, _, e⟩
  · rw [e]; exact g_last _ _ _ Dgs.nil
  · rw [e]; exact g_last _ _ _ (dgs_any d)

/-! ### The other kinds -/
theorem dec_inj {a b : Nat} (h : decDigits a = decDigits b) : a = b := by
  have := congrArg (dval 0) h
  rwa [dval_dec, dval_dec] at this
theorem dec_head (u : Nat) : ∃ c l, decDigits u = c :: l ∧ 48 ≤ c.toNat := by
  cases h : decDigits u with
  | nil =>
    have h1 := decDigits_length u
    have h2 := nDigits_pos u
    rw [h] at h1
    simp at h1
    omega
  | cons c l => exact ⟨c, l, rfl, (dgs_dec u c (by rw [h]; simp)).1⟩
theorem itoa_inj {n m : Int} (h : itoa n = itoa m) : n = m := by
  unfold itoa at h
  by_cases h1 : n < 0 <;> by_cases h2 : m < 0
  · rw [if_pos h1, if_pos h2] at h
    have := dec_inj (List.cons.inj h).2
    omega
  · rw [if_pos h1, if_neg h2] at h
    obtain ⟨c, l, hc, hb⟩ := dec_head m.toNat
    rw [hc] at h
    rw [← (List.cons.inj h).1] at hb
    exact absurd hb (by decide)
  · rw [if_neg h1, if_pos h2] at h
    obtain ⟨c, l, hc, hb⟩ := dec_head n.toNat
    rw [hc] at h
    rw [(List.cons.inj h).1] at hb
    exact absurd hb (by decide)
  · rw [if_neg h1, if_neg h2] at h
    have := dec_inj h
    omega
theorem tS_inj {c c' : UInt8} (h : tOf sS c ≠ 0) (e : tOf sS c = tOf sS c') : c = c' := by
  have m : ∀ x, tOf sS x ≠ 0 → x ∈ sS := by
    intro x hx
    unfold tOf at hx
    by_cases hm : x ∈ sS
    · exact hm
    · rw [if_neg hm] at hx; exact absurd rfl hx
  have hall : ∀ x ∈ sS, ∀ y ∈ sS, tOf sS x = tOf sS y → x = y := by decide
  exact hall c (m c h) c' (m c' (e ▸ h)) e
theorem esc_inj (l : List UInt8) : ∀ m, esc (tOf sS) l = esc (tOf sS) m → l = m := by
  have h92 : tOf sS 92 ≠ 0 := by decide
  have hnil : ∀ (c : UInt8) (l : List UInt8), esc (tOf sS) (c :: l) ≠ [] := by
    intro c l
    rw [esc_cons]
    unfold escB
    split <;> simp
  induction l with
  | nil =>
    intro m h
    cases m with
    | nil => rfl
    | cons c m => exact absurd h.symm (hnil c m)
  | cons c l ih =>
    intro m h
    cases m with
    | nil => exact absurd h (hnil c l)
    | cons c' m =>
      rw [esc_cons, esc_cons] at h
      unfold escB at h
      by_cases h1 : tOf sS c = 0 <;> by_cases h2 : tOf sS c' = 0
      · rw [if_pos h1, if_pos h2] at h
        have := List.cons.inj h
        rw [this.1, ih m this.2]
      · rw [if_pos h1, if_neg h2] at h
        have := (List.cons.inj h).1
        rw [this] at h1
        exact absurd h1 h92
      · rw [if_neg h1, if_pos h2] at h
        have := (List.cons.inj h).1
        rw [← this] at h2
        exact absurd h2 h92
      · rw [if_neg h1, if_neg h2] at h
        have h3 := (List.cons.inj h).2
        have h4 := List.cons.inj h3
        rw [tS_inj h1 h4.1, ih m h4.2]

/-! ### Values -/
/-- Is it finite? -/
def Val.fin : Val → Prop
  | .flt n => finOk n
  | _ => True
/-- The last sign tells the kind. -/
def lastOf : Val → UInt8 → Prop
  | .str _, c => c = 34
  | .int _, c => c = 105
  | .uint _, c => c = 117
  | .flt _, c => 48 ≤ c.toNat ∧ c.toNat ≤ 57
  | .bool _, c => c = 101
theorem val_last (x : Val) (h : x.fin) : ∃ l c, valText fTx x = l ++ [c] ∧ lastOf x c := by
  cases x with
  | str s => exact ⟨_, 34, rfl, rfl⟩
  | int n => exact ⟨_, 105, rfl, rfl⟩
  | uint n => exact ⟨_, 117, rfl, rfl⟩
  | flt n => exact fTx_last h
  | bool b => cases b
              · exact ⟨[102, 97, 108, 115], 101, rfl, rfl⟩
              · exact ⟨[116, 114, 117], 101, rfl, rfl⟩
theorem valText_inj {x y : Val} (hx : x.fin) (hy : y.fin) (h : valText fTx x = valText fTx y) : x = y := by
  obtain ⟨l, c, e, hc⟩ := val_last x hx
  obtain ⟨l', c', e', hc'⟩ := val_last y hy
  have hcc : c = c' := by
    have h2 := e.symm.trans (h.trans e')
    have := congrArg List.getLast? h2
    simpa using this
  subst hcc
  cases x <;> cases y
  case str.str s t =>
    have h1 : [34] ++ esc (tOf sS) s ++ [34] = [34] ++ esc (tOf sS) t ++ [34] := h
    rw [List.append_cancel_right_eq, List.append_cancel_left_eq] at h1
    rw [esc_inj s t h1]
  case int.int n m =>
    have h1 : itoa n ++ [105] = itoa m ++ [105] := h
    rw [List.append_cancel_right_eq] at h1
    rw [itoa_inj h1]
  case uint.uint n m =>
    have h1 : decDigits n ++ [117] = decDigits m ++ [117] := h
    rw [List.append_cancel_right_eq] at h1
    rw [dec_inj h1]
  case flt.flt n m =>
    rw [fTx_inj hx hy h]
  case bool.bool a b =>
    cases a <;> cases b <;> first | rfl | (exact absurd h (by decide))
  all_goals
    exfalso
    simp only [lastOf] at hc hc'
    first
      | (subst hc; revert hc'; decide)
      | (subst hc'; revert hc; decide)
/-- Equal, as the package has it. -/
def veq : Val → Val → Bool
  | .str s, .str t => s == t
  | .int n, .int m => n == m
  | .uint n, .uint m => n == m
  | .flt n, .flt m => n == m || (n % 9223372036854775808 == 0 && m % 9223372036854775808 == 0)
  | .bool a, .bool b => a == b
  | _, _ => false
/-- Both the float 0. -/
def vzero : Val → Val → Bool
  | .flt n, .flt m => n % 9223372036854775808 == 0 && m % 9223372036854775808 == 0
  | _, _ => false
theorem veq_self (x : Val) : veq x x = true := by cases x <;> simp [veq]
theorem veq_text (x y : Val) (hx : x.fin) (hy : y.fin) : veq x y = ((valText fTx x == valText fTx y) || vzero x y) := by
  by_cases h : x = y
  · subst h
    rw [veq_self, beq_self_eq_true, Bool.true_or]
  · have key : (valText fTx x == valText fTx y) = false := by
      rw [beq_eq_false_iff_ne]
      exact fun e => h (valText_inj hx hy e)
    rw [key, Bool.false_or]
    cases x <;> cases y
    case str.str a b => have h' : a ≠ b := fun e => h (by rw [e]); simp [veq, vzero, h']
    case int.int a b => have h' : a ≠ b := fun e => h (by rw [e]); simp [veq, vzero, h']
    case uint.uint a b => have h' : a ≠ b := fun e => h (by rw [e]); simp [veq, vzero, h']
    case flt.flt a b => have h' : a ≠ b := fun e => h (by rw [e]); simp [veq, vzero, h']
    case bool.bool a b => have h' : a ≠ b := fun e => h (by rw [e]); simp [veq, vzero, h']
    all_goals rfl
theorem veq_symm (x y : Val) : veq x y = veq y x := by
  have e : ∀ {α : Type} [BEq α] [LawfulBEq α] (a b : α), (a == b) = (b == a) := by
    intro α _ _ a b
    rw [Bool.eq_iff_iff, beq_iff_eq, beq_iff_eq]
    exact eq_comm
  cases x <;> cases y
  case str.str a b => exact e a b
  case int.int a b => exact e a b
  case uint.uint a b => exact e a b
  case flt.flt a b => simp only [veq]; rw [e a b, Bool.and_comm]
  case bool.bool a b => exact e a b
  all_goals rfl
end Go.Proofs.YtaaogjhaokaggaaGreatDoor
