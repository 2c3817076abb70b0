import Derived.Test.YtaaogjhaokaggaaGreatDoorEscA
namespace Go.Proofs.YtaaogjhaokaggaaGreatDoor
open Go.RowKit

def sumCnt (es l : List UInt8) : Nat := (es.map (cnt · l)).sum
theorem sumCnt_snoc (es : List UInt8) (c : UInt8) (l : List UInt8) : sumCnt (es ++ [c]) l = sumCnt es l + cnt c l := by simp [sumCnt]
theorem sumCnt_le (es l : List UInt8) : sumCnt es l ≤ es.length * l.length := by
  induction es with
  | nil => simp [sumCnt]
  | cons c es ih =>
    have := cnt_le c l
    simp only [sumCnt, List.map_cons, List.sum_cons, List.length_cons] at ih ⊢
    rw [Nat.add_mul]; omega

theorem one_str (s : ByteArray) (k : Nat) (h : k < s.size) : s.extract k (k + 1) = ⟨#[s[k]]⟩ := by
  have := one_at s k h
  rw [ByteArray.toList_eq] at this
  exact Go.WideShapes.bytes_inj (by rw [this])

set_option maxHeartbeats 400000 in
theorem escLen_any (b : Nat) (s es : ByteArray) (w : World) (hs : s.size ≤ 1000000) (he : es.size ≤ 10) (hc : w.cell? ⟨b, 512, none⟩ = some (.string es)) :
    Calls Tryz.prog 109 #[.pointer (some ⟨b, 0, none⟩), .string s] w fun e w' => e = .returned (.int .i64 ((s.size + sumCnt es.data.toList s.data.toList : Nat) : Int)) ∧ w' = w := by
  go_enter Tryz.func109, Tryz.ntmps109
  go_wp2
  go_loop [5, 6] (fun n i => ∃ k : Nat, k ≤ es.size ∧ i = .int .i64 k ∧ n = .int .i64 ((s.size + sumCnt (es.data.toList.take k) s.data.toList : Nat) : Int)) (fun _ i => es.size - (intOf i).toNat)
  case atStart => exact ⟨0, Nat.zero_le _, rfl, by simp [sumCnt]⟩
  case round =>
    obtain ⟨k, hk, rfl, rfl⟩ := hrel
    have hcl := sumCnt_le (es.data.toList.take k) s.data.toList
    have hl : (es.data.toList.take k).length ≤ k := List.length_take_le _ _
    have hb : sumCnt (es.data.toList.take k) s.data.toList ≤ 10 * 1000000 := Nat.le_trans hcl (Nat.mul_le_mul (by omega) (by simpa using hs))
    by_cases hlt : k < es.size
    · have hts := take_succ es k hlt
      have hsn := sumCnt_snoc (es.data.toList.take k) es[k] s.data.toList
      rw [← hts] at hsn
      have HS := Lib.hid hsn; clear hsn hts
      have ho := one_str es k hlt
      have HO := Lib.hid ho; clear ho
      have hc2 := cnt_le es[k] s.data.toList
      have hc3 : s.data.toList.length ≤ 1000000 := by simpa using hs
      go_wp2_with (go_at_call 134; rw [HO.out]; refine (zzCount_any s es[k] _ (by omega)).mono ?_; rintro e w' ⟨rfl, rfl⟩)
      go_round
      case rel => exact ⟨k + 1, by omega, by go_num, by rw [HS.out]; go_num⟩
      case measure => simp [intOf]; omega
    · go_wp2
      go_ret
      have : k = es.size := by omega
      subst this
      exact ⟨ret_int (by rw [List.take_of_length_le (Nat.le_of_eq (by simp))]), rfl⟩

/-- What a byte becomes by a table (0: itself). -/
def escB (T : UInt8 → UInt8) (c : UInt8) : List UInt8 := if T c = 0 then [c] else [92, T c]
def esc (T : UInt8 → UInt8) (l : List UInt8) : List UInt8 := l.flatMap (escB T)
theorem esc_snoc (T : UInt8 → UInt8) (l : List UInt8) (c : UInt8) : esc T (l ++ [c]) = esc T l ++ escB T c := by simp [esc]
theorem esc_append (T : UInt8 → UInt8) (l m : List UInt8) : esc T (l ++ m) = esc T l ++ esc T m := by simp [esc]
theorem esc_len (T : UInt8 → UInt8) (l : List UInt8) : (esc T l).length ≤ 2 * l.length := by
  induction l with
  | nil => simp [esc]
  | cons c l ih =>
    have : (escB T c).length ≤ 2 := by unfold escB; split <;> simp
    simp only [esc, List.flatMap_cons, List.length_append, List.length_cons] at ih ⊢
    omega

/-- Block g holds cur0, but that from off on it holds the bytes m. -/
def Wrote (w : World) (e : TypeId) (g off : Nat) (cur0 : Array Value) (fr : Nat × Nat) (m : List UInt8) : Prop :=
  ∃ cur : Array Value, w.heap[g]? = some (.cells cur e fr) ∧ cur.size = cur0.size ∧ ∀ i, cur[i]? = if off ≤ i ∧ i < off + m.length then (bvs m)[i - off]? else cur0[i]?

theorem Wrote.start {w : World} {e : TypeId} {g off : Nat} {cur0 : Array Value} {fr : Nat × Nat} (h : w.heap[g]? = some (.cells cur0 e fr)) : Wrote w e g off cur0 fr [] :=
  ⟨cur0, h, rfl, fun i => by rw [if_neg (by simp)]⟩
theorem Wrote.more {w : World} {e : TypeId} {g off : Nat} {cur0 : Array Value} {fr : Nat × Nat} {m : List UInt8} (h : Wrote w e g off cur0 fr m) (c : UInt8) (hl : off + m.length < cur0.size) :
    Wrote (w.setCell ⟨g, off + m.length, none⟩ (.int .u8 (c.toNat : Int))) e g off cur0 fr (m ++ [c]) := by
  obtain ⟨cur, h1, h2, h3⟩ := h
  refine ⟨cur.setIfInBounds (off + m.length) (.int .u8 (c.toNat : Int)), ?_, by simpa using h2, fun i => ?_⟩
  · rw [setCell_eq_setRow w g _ cur e fr _ h1]
    exact setRow_heap w g cur _ e fr h1
  · rw [Array.getElem?_setIfInBounds, h3 i]
    simp only [List.length_append, List.length_singleton, bvs_append]
    by_cases a : off + m.length = i
    · subst a
      rw [if_pos rfl, if_pos (by omega), if_pos (by omega), List.getElem?_append_right (by rw [bvs_length]; omega), bvs_length]
      simp [bvs, bv]
    · rw [if_neg a]
      by_cases b : off ≤ i ∧ i < off + m.length
      · rw [if_pos b, if_pos (by omega), List.getElem?_append_left (by rw [bvs_length]; omega)]
      · rw [if_neg b, if_neg (by omega)]
theorem Wrote.cell {w : World} {e : TypeId} {g off : Nat} {cur0 : Array Value} {fr : Nat × Nat} {m : List UInt8} (h : Wrote w e g off cur0 fr m) (i : Nat) (hi : i < cur0.size) : ∃ v, w.cell? ⟨g, i, none⟩ = some v := by
  obtain ⟨cur, h1, h2, _⟩ := h
  exact ⟨cur[i], by rw [cell_of_row w g i cur e fr h1]; simp [h2, hi]⟩
theorem Wrote.free {w : World} {e : TypeId} {g off : Nat} {cur0 : Array Value} {fr : Nat × Nat} {m : List UInt8} (h : Wrote w e g off cur0 fr m) (i : Nat) (hf : ¬ (fr.1 ≤ i ∧ i < fr.2)) : w.frozen? ⟨g, i, none⟩ = false := by
  obtain ⟨cur, h1, _⟩ := h
  simp only [World.frozen?, h1]
  cases fr
  simp only at hf ⊢
  simp only [Bool.and_eq_false_iff, decide_eq_false_iff_not]
  omega

set_option maxHeartbeats 1000000 in
theorem escape_any (T : UInt8 → UInt8) (b g off n cap : Nat) (s : ByteArray) (e : TypeId) (cur0 : Array Value) (fr : Nat × Nat) (w : World) (hs : s.size ≤ 1000000)
    (ht : ∀ c : UInt8, w.cell? ⟨b, c.toNat, none⟩ = some (.int .u8 ((T c).toNat : Int))) (hbg : b ≠ g)
    (hg : w.heap[g]? = some (.cells cur0 e fr)) (hfr : ∀ j, j < cur0.size → ¬ (fr.1 ≤ j ∧ j < fr.2)) (hn : n = (esc T s.data.toList).length) (hoff : off + n ≤ cur0.size) :
    Calls Tryz.prog 110 #[.pointer (some ⟨b, 0, none⟩), .slice (some ⟨g, off, none⟩) n cap, .string s] w fun e' w' => e' = .returned (.tuple #[]) ∧ Wrote w' e g off cur0 fr (esc T s.data.toList) ∧ Fr [g] w w' := by
  have HN := Lib.hid hn; clear hn
  go_enter Tryz.func110, Tryz.ntmps110
  go_wp2
  go_loopw [6, 7] (fun j i wr => ∃ k : Nat, k ≤ s.size ∧ i = .int .i64 k ∧ j = .int .i64 ((esc T (s.data.toList.take k)).length : Nat) ∧ Wrote wr e g off cur0 fr (esc T (s.data.toList.take k)) ∧ Fr [g] w wr) (fun _ i _ => s.size - (intOf i).toNat)
  case atStart => exact ⟨0, Nat.zero_le _, rfl, by simp [esc], by simpa [esc] using Wrote.start hg, Fr.refl _ _⟩
  case round =>
    obtain ⟨k, hk, rfl, rfl, hw, hf⟩ := hrel
    have hel := esc_len T (s.data.toList.take k)
    have hl : (s.data.toList.take k).length ≤ k := List.length_take_le _ _
    by_cases hlt : k < s.size
    · have hts := take_succ s k hlt
      have hsn := esc_snoc T (s.data.toList.take k) s[k]
      rw [← hts] at hsn
      have htot : (esc T (s.data.toList.take k)).length + (escB T s[k]).length ≤ n := by
        have e : s.data.toList = s.data.toList.take (k + 1) ++ s.data.toList.drop (k + 1) := (List.take_append_drop _ _).symm
        rw [HN.out]
        conv => rhs; rw [e]
        rw [esc_append, hsn, List.length_append, List.length_append]
        omega
      have HS := Lib.hid hsn; clear hsn hts
      have hT : wr.cell? ⟨b, s[k].toNat, none⟩ = some (.int .u8 ((T s[k]).toNat : Int)) := hf.cell (ht s[k]) (by simpa using hbg)
      have hsb : (s[k].toNat : Int) < 256 := by have := s[k].toNat_lt; omega
      obtain ⟨J, hJ⟩ : ∃ J, J = (esc T (s.data.toList.take k)).length := ⟨_, rfl⟩
      rw [← hJ] at htot hel ⊢
      have HJ := Lib.hid hJ; clear hJ
      have HW := Lib.hid hw; clear hw
      clear ht
      by_cases hz : T s[k] = 0
      · have hlen : (escB T s[k]).length = 1 := by simp [escB, hz]
        obtain ⟨v0, hv0⟩ := HW.out.cell (off + J) (by omega)
        have hf0 := HW.out.free (off + J) (hfr _ (by omega))
        have hz0 : ((T s[k]).toNat : Int) = 0 := by rw [hz]; rfl
        rw [hz0] at hT
        rw [hlen] at htot
        have HZ := Lib.hid hz; clear hz hz0 hlen
        have HF := Lib.hid hfr; clear hfr
        go_wp2
        go_roundw
        case rel =>
          refine ⟨k + 1, by omega, by go_num, ?_, ?_, hf.setCell (by simp) _⟩
          · rw [HS.out, List.length_append, ← HJ.out, escB, if_pos HZ.out]; go_num
          · rw [HS.out, escB, if_pos HZ.out]
            have := HW.out.more s[k] (by rw [← HJ.out]; omega)
            rw [← HJ.out] at this
            exact this
        case measure => simp [intOf]; omega
      · have hlen : (escB T s[k]).length = 2 := by simp [escB, hz]
        obtain ⟨v0, hv0⟩ := HW.out.cell (off + J) (by omega)
        obtain ⟨v1, hv1⟩ := HW.out.cell (off + (J + 1)) (by omega)
        have hf0 := HW.out.free (off + J) (hfr _ (by omega))
        have hf1 := HW.out.free (off + (J + 1)) (hfr _ (by omega))
        have hzn : (((T s[k]).toNat : Int) != 0) = true := by
          rw [bne_iff_ne]
          intro h
          exact hz (UInt8.toNat_inj.1 (by simpa using h))
        rw [hlen] at htot
        have hlen' := hlen
        have HZ := Lib.hid hz; clear hz hlen
        have HL := Lib.hid hlen'; clear hlen'
        have HF := Lib.hid hfr; clear hfr
        go_wp2
        go_roundw
        case rel =>
          have a1 := HW.out.more 92 (by rw [← HJ.out]; omega)
          have a2 := a1.more (T s[k]) (by rw [List.length_append, ← HJ.out]; simp; omega)
          rw [List.length_append, ← HJ.out] at a2
          refine ⟨k + 1, by omega, by go_num, ?_, ?_, (hf.setCell (by simp) _).setCell (by simp) _⟩
          · rw [HS.out, List.length_append, ← HJ.out, HL.out]; go_num
          · rw [HS.out, escB, if_neg HZ.out]
            simpa [List.append_assoc] using a2
        case measure => simp [intOf]; omega
    · go_wp2
      go_end0
      have : k = s.size := by omega
      subst this
      rw [List.take_of_length_le (Nat.le_of_eq (by simp))] at hw
      exact ⟨rfl, hw, hf⟩
end Go.Proofs.YtaaogjhaokaggaaGreatDoor
