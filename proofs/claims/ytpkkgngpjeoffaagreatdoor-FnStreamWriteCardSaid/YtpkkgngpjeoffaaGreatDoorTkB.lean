/- PROVED HERE: a part of round r2's proofs (text TkB): lemmas and walks that later texts use. CONDITIONS: those written ahead of each theorem. -/
import Derived.Test.YtpkkgngpjeoffaaGreatDoorTkA
namespace Go.Proofs.YtpkkgngpjeoffaaGreatDoor
open Go.RowKit

def dv (l : List UInt8) : Nat := l.foldl (fun a c => 10 * a + (c.toNat - 48)) 0
theorem dv_snoc (l : List UInt8) (c : UInt8) : dv (l ++ [c]) = 10 * dv l + (c.toNat - 48) := by simp [dv]
def isDig (c : UInt8) : Prop := 48 ≤ c.toNat ∧ c.toNat ≤ 57
theorem dig_of {d : Nat} (h : d < 10) : (UInt8.ofNat (48 + d)).toNat = 48 + d := by
  simp
  omega
theorem dec_dv (u : Nat) : dv (Lib.decDigits u) = u ∧ ∀ c ∈ Lib.decDigits u, isDig c := by
  induction u using Nat.strongRecOn with
  | _ u ih =>
    by_cases h : u < 10
    · rw [Lib.decDigits_one h]
      refine ⟨?_, fun c hc => ?_⟩
      · have := dig_of h
        simp only [dv, List.foldl]
        omega
      · simp only [List.mem_singleton] at hc
        subst hc
        have := dig_of h
        exact ⟨by omega, by omega⟩
    · rw [Lib.decDigits, dif_neg h]
      obtain ⟨h1, h2⟩ := ih (u / 10) (by omega)
      have hd := dig_of (show u % 10 < 10 by omega)
      refine ⟨?_, fun c hc => ?_⟩
      · rw [dv_snoc, h1, hd]
        omega
      · rcases List.mem_append.1 hc with hc | hc
        · exact h2 c hc
        · simp only [List.mem_singleton] at hc
          subst hc
          exact ⟨by omega, by omega⟩
theorem dv_lt0 : ∀ (l : List UInt8) (a : Nat), (∀ c ∈ l, isDig c) → l.foldl (fun a c => 10 * a + (c.toNat - 48)) a < (a + 1) * 10 ^ l.length
  | [], a, _ => by simp
  | c :: l, a, h => by
    have h1 := dv_lt0 l (10 * a + (c.toNat - 48)) (fun x hx => h x (List.mem_cons_of_mem _ hx))
    have h2 := h c (by simp)
    unfold isDig at h2
    rw [List.foldl_cons, List.length_cons, Nat.pow_succ, Nat.mul_comm (10 ^ l.length) 10, ← Nat.mul_assoc]
    exact Nat.lt_of_lt_of_le h1 (Nat.mul_le_mul_right _ (by omega))
theorem dv_lt (l : List UInt8) (h : ∀ c ∈ l, isDig c) : dv l < 10 ^ l.length := by
  have := dv_lt0 l 0 h
  simpa [dv] using this
theorem nD_le : ∀ (k u : Nat), u < 10 ^ (k + 1) → Lib.nDigits u ≤ k + 1
  | 0, u, h => by rw [Lib.nDigits_small (by simpa using h)]; exact Nat.le_refl _
  | k + 1, u, h => by
    by_cases h10 : u < 10
    · rw [Lib.nDigits_small h10]; omega
    · rw [Lib.nDigits_big h10]
      have := nD_le k (u / 10) (by rw [Nat.pow_succ] at h; omega)
      omega
theorem dec_ne (u : Nat) : Lib.decDigits u ≠ [] := by
  rw [Lib.decDigits]
  split <;> simp
theorem dec_len18 {u : Nat} (h : u < 1000000000000000000) : (Lib.decDigits u).length ≤ 18 := by
  rw [Lib.decDigits_length]
  exact nD_le 17 u h
set_option maxRecDepth 100000 in
set_option maxHeartbeats 1000000 in
theorem parsed_any (S : ByteArray) (l : List UInt8) (w : World) (hS : S.data.toList = l) (hl : l ≠ []) (hd : ∀ c ∈ l, isDig c) (hlen : l.length ≤ 18) :
    Calls Tryz.prog 77 #[.string S] w fun e w' => e = .returned (.tuple #[.int .i64 (dv l : Int), .bool true, .bool false]) ∧ w' = w := by
  have hsz : S.size = l.length := by rw [Lib.size_eq, hS]
  obtain ⟨N, hN⟩ : ∃ N, N = S.size := ⟨_, rfl⟩
  have hl1 : 1 ≤ l.length := List.length_pos_iff.2 hl
  have hget : ∀ k, k < l.length → ∃ d : Nat, d ≤ 9 ∧ (∀ W : World, (Instr.index 9 (.string S) (.int .i64 k)).run Tryz.prog W = .ok (.int .u8 ((48 : Int) + d)) W) ∧ dv (l.take (k + 1)) = 10 * dv (l.take k) + d := by
    intro k hk
    have hm := hd l[k] (List.getElem_mem hk)
    unfold isDig at hm
    refine ⟨l[k].toNat - 48, by omega, fun W => ?_, ?_⟩
    · rw [index_get S k l[k] (by rw [hS]; exact List.getElem?_eq_getElem hk) W]
      congr 2
      omega
    · rw [← List.take_append_getElem hk, dv_snoc]
  have hlt : ∀ k, dv (l.take k) < 1000000000000000000 := fun k => by
    refine Nat.lt_of_lt_of_le (dv_lt _ (fun c hc => hd c (List.mem_of_mem_take hc))) ?_
    exact Nat.le_trans (Nat.pow_le_pow_right (by decide) (by rw [List.length_take]; omega : _ ≤ 18)) (by decide)
  obtain ⟨d0, hd0, hi0, _⟩ := hget 0 (by omega)
  have HGET := Lib.hid hget
  have HLT := Lib.hid hlt
  have HSZ := Lib.hid hsz
  have hN0 : N = l.length := by rw [hN, hsz]
  have HN := Lib.hid hN0
  have i1 : (0 : Int) < (S.size : Int) := by omega
  have i1' : decide (0 < S.size) = true := decide_eq_true (by omega)
  have i2 : (S.size : Int) ≤ 18 := by omega
  have e1 : ((48 : Int) + (d0 : Int) == 45) = false := by simp; omega
  have e2 : ((48 : Int) + (d0 : Int) == 43) = false := by simp; omega
  simp only [Int.natCast_zero] at hi0
  clear hS hl hd hget hlt hsz hN0
  go_enter Tryz.func77, Tryz.ntmps77
  go_wp2_with fail
  go_loopw [2, 6] (fun v i wr => ∃ k : Nat, k ≤ N ∧ i = .int .i64 k ∧ v = .int .i64 (dv (l.take k) : Int) ∧ wr = w) (fun _ i _ => N - (intOf i).toNat)
  case atStart => exact ⟨0, by omega, rfl, by simp [dv], rfl⟩
  case round =>
    obtain ⟨k, hk, rfl, rfl, rfl⟩ := hrel
    by_cases hlt : k < N
    · obtain ⟨d, hd1, hix, hdv⟩ := HGET.out k (by rw [← HN.out]; exact hlt)
      obtain ⟨v, hv⟩ : ∃ v, v = dv (l.take k) := ⟨_, rfl⟩
      have hv1 : v < 1000000000000000000 := by rw [hv]; exact HLT.out k
      have hv2 := HLT.out (k + 1)
      rw [← hv] at hdv ⊢
      rw [hdv] at hv2
      have HDV := Lib.hid hdv
      have j1 : decide ((48 : Int) + (d : Int) < 48) = false := decide_eq_false (by omega)
      have j2 : decide ((57 : Int) < (48 : Int) + (d : Int)) = false := decide_eq_false (by omega)
      have j3 : (k : Int) < 18 := by omega
      have j4 : (k : Int) < (S.size : Int) := by rw [hN] at hlt; omega
      clear hdv hv
      go_wp2_with fail
      go_roundw
      case rel => exact ⟨k + 1, by omega, by go_num, by rw [HDV.out]; congr 1; omega, trivial⟩
      case measure => simp [intOf]; omega
    · have hkN : k = N := by omega
      subst hkN
      have htl : l.take k = l := by rw [HN.out, List.take_length]
      rw [htl]
      have j4 : ¬ (k : Int) < (S.size : Int) := by rw [hN]; omega
      have j5 : ¬ (18 : Int) < (S.size : Int) := by omega
      have j6 : decide (18 < S.size) = false := decide_eq_false (by omega)
      go_wp2_with fail
      go_ret3
      exact ⟨rfl, rfl⟩
end Go.Proofs.YtpkkgngpjeoffaaGreatDoor
