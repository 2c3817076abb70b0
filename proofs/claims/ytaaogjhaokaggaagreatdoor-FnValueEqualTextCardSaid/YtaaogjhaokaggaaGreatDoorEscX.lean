import Derived.Test.YtaaogjhaokaggaaGreatDoorLawA
import Derived.Test.YtaaogjhaokaggaaGreatDoorProg
import Derived.Test.YtaaogjhaokaggaaGreatDoorQuoA
import Derived.Deep.DeepCutAuto
import Derived.Outline
import Derived.Lib.OthersKept
namespace Go.Proofs.YtaaogjhaokaggaaGreatDoor
open Go.RowKit

/-- How often a byte stands in a list. -/
def cnt (c : UInt8) (l : List UInt8) : Nat := (l.filter (· == c)).length
theorem cnt_le (c : UInt8) (l : List UInt8) : cnt c l ≤ l.length := List.length_filter_le _ _
theorem cnt_snoc (c b : UInt8) (l : List UInt8) : cnt c (l ++ [b]) = cnt c l + if b == c then 1 else 0 := by
  unfold cnt; rw [List.filter_append]; by_cases h : b == c <;> simp [h]
theorem take_succ (s : ByteArray) (k : Nat) (h : k < s.size) : s.data.toList.take (k + 1) = s.data.toList.take k ++ [s[k]] := by
  rw [List.take_succ_eq_append_getElem (by simpa using h)]; rfl

theorem one_at (s : ByteArray) (k : Nat) (h : k < s.size) : (s.extract k (k + 1)).toList = [s[k]] := by
  have e : (s.extract k (k + 1)).data.toList = [s[k]] := by
    rw [ByteArray.data_extract, Array.toList_extract, List.extract_eq_take_drop, show k + 1 - k = 1 by omega, List.take_one]
    have : s.data.toList[k]? = some s[k] := by
      rw [Array.getElem?_toList]; exact Array.getElem?_eq_getElem h
    rw [List.head?_drop, this]; rfl
  rw [ByteArray.toList_eq]
  exact e

set_option maxHeartbeats 400000 in
theorem zzCount_any (s : ByteArray) (c : UInt8) (w : World) (hs : s.size ≤ 140737488351232) :
    Calls Tryz.prog 134 #[.string s, .string ⟨#[c]⟩] w fun e w' => e = .returned (.int .i64 (cnt c s.data.toList)) ∧ w' = w := by
  go_enter Tryz.func134, Tryz.ntmps134
  go_wp2
  go_loop [5, 6] (fun n i => ∃ k : Nat, k ≤ s.size ∧ i = .int .i64 k ∧ n = .int .i64 (cnt c (s.data.toList.take k))) (fun _ i => s.size - (intOf i).toNat)
  case atStart => exact ⟨0, Nat.zero_le _, rfl, rfl⟩
  case round =>
    obtain ⟨k, hk, rfl, rfl⟩ := hrel
    have hcl := cnt_le c (s.data.toList.take k)
    have hl : (s.data.toList.take k).length ≤ k := List.length_take_le _ _
    by_cases hlt : k < s.size
    · have hts := take_succ s k hlt
      have hsn := cnt_snoc c s[k] (s.data.toList.take k)
      rw [← hts] at hsn
      have HS := Lib.hid hsn; clear hsn hts
      have ho := one_at s k hlt
      have HO := Lib.hid ho; clear ho
      go_wp2
      all_goals
        go_round
        case rel =>
          refine ⟨k + 1, by omega, by go_num, ?_⟩
          first
            | (have h : ((s.extract k (k + 1)).toList == [c]) = true := by assumption
               rw [HO.out] at h; rw [HS.out, if_pos (by simpa using h)]; go_num)
            | (have h : ((s.extract k (k + 1)).toList == [c]) = false := by assumption
               rw [HO.out] at h; rw [HS.out, if_neg (by simpa using h)]; go_num)
        case measure => simp [intOf]; omega
    · go_wp2
      go_ret
      have : k = s.size := by omega
      subst this
      exact ⟨ret_int (by rw [List.take_of_length_le (Nat.le_of_eq (by simp))]), rfl⟩
end Go.Proofs.YtaaogjhaokaggaaGreatDoor
namespace Go.Proofs.YtaaogjhaokaggaaGreatDoor
open Go.RowKit

def sumCnt (es l : List UInt8) : Nat := (es.map (cnt · l)).sum
theorem sumCnt_snoc (es : List UInt8) (c : UInt8) (l : List UInt8) : sumCnt (es ++ [c]) l = sumCnt es l + cnt c l := by simp [sumCnt]
theorem sumCnt_le (es l : List UInt8) : sumCnt es l ≤ es.length * l.length := by
  induction es with
  | nil => simp [sumCnt]
  | cons c es ih =>
    have := cnt_le c l
    simp only [sumCnt, List.map_cons, List.sum_cons, List.length_cons] at ih ⊢
    rw [Nat.add_mul]; omega

theorem one_str (s : ByteArray) (k : Nat) (h : k < s.size) : s.extract k (k + 1) = ⟨#[s[k]]⟩ := by
  have := one_at s k h
  rw [ByteArray.toList_eq] at this
  exact Go.WideShapes.bytes_inj (by rw [this])

set_option maxHeartbeats 400000 in
theorem escLen_any (b : Nat) (s es : ByteArray) (w : World) (hs : s.size ≤ 1000000) (he : es.size ≤ 10) (hc : w.cell? ⟨b, 512, none⟩ = some (.string es)) :
    Calls Tryz.prog 109 #[.pointer (some ⟨b, 0, none⟩), .string s] w fun e w' => e = .returned (.int .i64 ((s.size + sumCnt es.data.toList s.data.toList : Nat) : Int)) ∧ w' = w := by
  go_enter Tryz.func109, Tryz.ntmps109
  go_wp2
  go_loop [5, 6] (fun n i => ∃ k : Nat, k ≤ es.size ∧ i = .int .i64 k ∧ n = .int .i64 ((s.size + sumCnt (es.data.toList.take k) s.data.toList : Nat) : Int)) (fun _ i => es.size - (intOf i).toNat)
  case atStart => exact ⟨0, Nat.zero_le _, rfl, by simp [sumCnt]⟩
  case round =>
    obtain ⟨k, hk, rfl, rfl⟩ := hrel
    have hcl := sumCnt_le (es.data.toList.take k) s.data.toList
    have hl : (es.data.toList.take k).length ≤ k := List.length_take_le _ _
    have hb : sumCnt (es.data.toList.take k) s.data.toList ≤ 10 * 1000000 := Nat.le_trans hcl (Nat.mul_le_mul (by omega) (by simpa using hs))
    by_cases hlt : k < es.size
    · have hts := take_succ es k hlt
      have hsn := sumCnt_snoc (es.data.toList.take k) es[k] s.data.toList
      rw [← hts] at hsn
      have HS := Lib.hid hsn; clear hsn hts
      have ho := one_str es k hlt
      have HO := Lib.hid ho; clear ho
      have hc2 := cnt_le es[k] s.data.toList
      have hc3 : s.data.toList.length ≤ 1000000 := by simpa using hs
      go_wp2_with (go_at_call 134; rw [HO.out]; refine (zzCount_any s es[k] _ (by omega)).mono ?_; rintro e w' ⟨rfl, rfl⟩)
      go_round
      case rel => exact ⟨k + 1, by omega, by go_num, by rw [HS.out]; go_num⟩
      case measure => simp [intOf]; omega
    · go_wp2
      go_ret
      have : k = es.size := by omega
      subst this
      exact ⟨ret_int (by rw [List.take_of_length_le (Nat.le_of_eq (by simp))]), rfl⟩

/-- What a byte becomes by a table (0: itself). -/
def escB (T : UInt8 → UInt8) (c : UInt8) : List UInt8 := if T c = 0 then [c] else [92, T c]
def esc (T : UInt8 → UInt8) (l : List UInt8) : List UInt8 := l.flatMap (escB T)
theorem esc_snoc (T : UInt8 → UInt8) (l : List UInt8) (c : UInt8) : esc T (l ++ [c]) = esc T l ++ escB T c := by simp [esc]
theorem esc_append (T : UInt8 → UInt8) (l m : List UInt8) : esc T (l ++ m) = esc T l ++ esc T m := by simp [esc]
theorem esc_len (T : UInt8 → UInt8) (l : List UInt8) : (esc T l).length ≤ 2 * l.length := by
  induction l with
  | nil => simp [esc]
  | cons c l ih =>
    have : (escB T c).length ≤ 2 := by unfold escB; split <;> simp
    simp only [esc, List.flatMap_cons, List.length_append, List.length_cons] at ih ⊢
    omega

/-- Block g holds cur0, but that from off on it holds the bytes m. -/
def Wrote (w : World) (e : TypeId) (g off : Nat) (cur0 : Array Value) (fr : Nat × Nat) (m : List UInt8) : Prop :=
  ∃ cur : Array Value, w.heap[g]? = some (.cells cur e fr) ∧ cur.size = cur0.size ∧ ∀ i, cur[i]? = if off ≤ i ∧ i < off + m.length then (bvs m)[i - off]? else cur0[i]?

theorem Wrote.start {w : World} {e : TypeId} {g off : Nat} {cur0 : Array Value} {fr : Nat × Nat} (h : w.heap[g]? = some (.cells cur0 e fr)) : Wrote w e g off cur0 fr [] :=
  ⟨cur0, h, rfl, fun i => by rw [if_neg (by simp)]⟩
theorem Wrote.more {w : World} {e : TypeId} {g off : Nat} {cur0 : Array Value} {fr : Nat × Nat} {m : List UInt8} (h : Wrote w e g off cur0 fr m) (c : UInt8) (hl : off + m.length < cur0.size) :
    Wrote (w.setCell ⟨g, off + m.length, none⟩ (.int .u8 (c.toNat : Int))) e g off cur0 fr (m ++ [c]) := by
  obtain ⟨cur, h1, h2, h3⟩ := h
  refine ⟨cur.setIfInBounds (off + m.length) (.int .u8 (c.toNat : Int)), ?_, by simpa using h2, fun i => ?_⟩
  · rw [setCell_eq_setRow w g _ cur e fr _ h1]
    exact setRow_heap w g cur _ e fr h1
  · rw [Array.getElem?_setIfInBounds, h3 i]
    simp only [List.length_append, List.length_singleton, bvs_append]
    by_cases a : off + m.length = i
    · subst a
      rw [if_pos rfl, if_pos (by omega), if_pos (by omega), List.getElem?_append_right (by rw [bvs_length]; omega), bvs_length]
      simp [bvs, bv]
    · rw [if_neg a]
      by_cases b : off ≤ i ∧ i < off + m.length
      · rw [if_pos b, if_pos (by omega), List.getElem?_append_left (by rw [bvs_length]; omega)]
      · rw [if_neg b, if_neg (by omega)]
theorem Wrote.cell {w : World} {e : TypeId} {g off : Nat} {cur0 : Array Value} {fr : Nat × Nat} {m : List UInt8} (h : Wrote w e g off cur0 fr m) (i : Nat) (hi : i < cur0.size) : ∃ v, w.cell? ⟨g, i, none⟩ = some v := by
  obtain ⟨cur, h1, h2, _⟩ := h
  exact ⟨cur[i], by rw [cell_of_row w g i cur e fr h1]; simp [h2, hi]⟩
theorem Wrote.free {w : World} {e : TypeId} {g off : Nat} {cur0 : Array Value} {fr : Nat × Nat} {m : List UInt8} (h : Wrote w e g off cur0 fr m) (i : Nat) (hf : ¬ (fr.1 ≤ i ∧ i < fr.2)) : w.frozen? ⟨g, i, none⟩ = false := by
  obtain ⟨cur, h1, _⟩ := h
  simp only [World.frozen?, h1]
  cases fr
  simp only at hf ⊢
  simp only [Bool.and_eq_false_iff, decide_eq_false_iff_not]
  omega

set_option maxHeartbeats 1000000 in
theorem escape_any (T : UInt8 → UInt8) (b g off n cap : Nat) (s : ByteArray) (e : TypeId) (cur0 : Array Value) (fr : Nat × Nat) (w : World) (hs : s.size ≤ 1000000)
    (ht : ∀ c : UInt8, w.cell? ⟨b, c.toNat, none⟩ = some (.int .u8 ((T c).toNat : Int))) (hbg : b ≠ g)
    (hg : w.heap[g]? = some (.cells cur0 e fr)) (hfr : ∀ j, j < cur0.size → ¬ (fr.1 ≤ j ∧ j < fr.2)) (hn : n = (esc T s.data.toList).length) (hoff : off + n ≤ cur0.size) :
    Calls Tryz.prog 110 #[.pointer (some ⟨b, 0, none⟩), .slice (some ⟨g, off, none⟩) n cap, .string s] w fun e' w' => e' = .returned (.tuple #[]) ∧ Wrote w' e g off cur0 fr (esc T s.data.toList) ∧ Fr [g] w w' := by
  have HN := Lib.hid hn; clear hn
  go_enter Tryz.func110, Tryz.ntmps110
  go_wp2
  go_loopw [6, 7] (fun j i wr => ∃ k : Nat, k ≤ s.size ∧ i = .int .i64 k ∧ j = .int .i64 ((esc T (s.data.toList.take k)).length : Nat) ∧ Wrote wr e g off cur0 fr (esc T (s.data.toList.take k)) ∧ Fr [g] w wr) (fun _ i _ => s.size - (intOf i).toNat)
  case atStart => exact ⟨0, Nat.zero_le _, rfl, by simp [esc], by simpa [esc] using Wrote.start hg, Fr.refl _ _⟩
  case round =>
    obtain ⟨k, hk, rfl, rfl, hw, hf⟩ := hrel
    have hel := esc_len T (s.data.toList.take k)
    have hl : (s.data.toList.take k).length ≤ k := List.length_take_le _ _
    by_cases hlt : k < s.size
    · have hts := take_succ s k hlt
      have hsn := esc_snoc T (s.data.toList.take k) s[k]
      rw [← hts] at hsn
      have htot : (esc T (s.data.toList.take k)).length + (escB T s[k]).length ≤ n := by
        have e : s.data.toList = s.data.toList.take (k + 1) ++ s.data.toList.drop (k + 1) := (List.take_append_drop _ _).symm
        rw [HN.out]
        conv => rhs; rw [e]
        rw [esc_append, hsn, List.length_append, List.length_append]
        omega
      have HS := Lib.hid hsn; clear hsn hts
      have hT : wr.cell? ⟨b, s[k].toNat, none⟩ = some (.int .u8 ((T s[k]).toNat : Int)) := hf.cell (ht s[k]) (by simpa using hbg)
      have hsb : (s[k].toNat : Int) < 256 := by have := s[k].toNat_lt; omega
      obtain ⟨J, hJ⟩ : ∃ J, J = (esc T (s.data.toList.take k)).length := ⟨_, rfl⟩
      rw [← hJ] at htot hel ⊢
      have HJ := Lib.hid hJ; clear hJ
      have HW := Lib.hid hw; clear hw
      clear ht
      by_cases hz : T s[k] = 0
      · have hlen : (escB T s[k]).length = 1 := by simp [escB, hz]
        obtain ⟨v0, hv0⟩ := HW.out.cell (off + J) (by omega)
        have hf0 := HW.out.free (off + J) (hfr _ (by omega))
        have hz0 : ((T s[k]).toNat : Int) = 0 := by rw [hz]; rfl
        rw [hz0] at hT
        rw [hlen] at htot
        have HZ := Lib.hid hz; clear hz hz0 hlen
        have HF := Lib.hid hfr; clear hfr
        go_wp2
        go_roundw
        case rel =>
          refine ⟨k + 1, by omega, by go_num, ?_, ?_, hf.setCell (by simp) _⟩
          · rw [HS.out, List.length_append, ← HJ.out, escB, if_pos HZ.out]; go_num
          · rw [HS.out, escB, if_pos HZ.out]
            have := HW.out.more s[k] (by rw [← HJ.out]; omega)
            rw [← HJ.out] at this
            exact this
        case measure => simp [intOf]; omega
      · have hlen : (escB T s[k]).length = 2 := by simp [escB, hz]
        obtain ⟨v0, hv0⟩ := HW.out.cell (off + J) (by omega)
        obtain ⟨v1, hv1⟩ := HW.out.cell (off + (J + 1)) (by omega)
        have hf0 := HW.out.free (off + J) (hfr _ (by omega))
        have hf1 := HW.out.free (off + (J + 1)) (hfr _ (by omega))
        have hzn : (((T s[k]).toNat : Int) != 0) = true := by
          rw [bne_iff_ne]
          intro h
          exact hz (UInt8.toNat_inj.1 (by simpa using h))
        rw [hlen] at htot
        have hlen' := hlen
        have HZ := Lib.hid hz; clear hz hlen
        have HL := Lib.hid hlen'; clear hlen'
        have HF := Lib.hid hfr; clear hfr
        go_wp2
        go_roundw
        case rel =>
          have a1 := HW.out.more 92 (by rw [← HJ.out]; omega)
          have a2 := a1.more (T s[k]) (by rw [List.length_append, ← HJ.out]; simp; omega)
          rw [List.length_append, ← HJ.out] at a2
          refine ⟨k + 1, by omega, by go_num, ?_, ?_, (hf.setCell (by simp) _).setCell (by simp) _⟩
          · rw [HS.out, List.length_append, ← HJ.out, HL.out]; go_num
          · rw [HS.out, escB, if_neg HZ.out]
            simpa [List.append_assoc] using a2
        case measure => simp [intOf]; omega
    · go_wp2
      go_end0
      have : k = s.size := by omega
      subst this
      rw [List.take_of_length_le (Nat.le_of_eq (by simp))] at hw
      exact ⟨rfl, hw, hf⟩
end Go.Proofs.YtaaogjhaokaggaaGreatDoor
namespace Go.Proofs.YtaaogjhaokaggaaGreatDoor
open Go.RowKit

/-- An escaper at the head of block b. -/
structure EscAt (w : World) (b : Nat) (T : UInt8 → UInt8) : Prop where
  tab : ∀ c : UInt8, w.cell? ⟨b, c.toNat, none⟩ = some (.int .u8 ((T c).toNat : Int))
  set : ∃ es : ByteArray, w.cell? ⟨b, 512, none⟩ = some (.string es) ∧ es.size ≤ 10 ∧ ∀ l : List UInt8, l.length + sumCnt es.data.toList l = (esc T l).length
theorem EscAt.fr {S : List Nat} {w w' : World} {b : Nat} {T : UInt8 → UInt8} (h : EscAt w b T) (f : Fr S w w') (hb : b ∉ S) : EscAt w' b T :=
  ⟨fun c => f.cell (h.tab c) hb, by obtain ⟨es, h1, h2⟩ := h.set; exact ⟨es, f.cell h1 hb, h2⟩⟩

theorem esc_cons (T : UInt8 → UInt8) (c : UInt8) (l : List UInt8) : esc T (c :: l) = escB T c ++ esc T l := by simp [esc]
theorem esc_ge (T : UInt8 → UInt8) (l : List UInt8) : l.length ≤ (esc T l).length := by
  induction l with
  | nil => simp
  | cons d l ih =>
    have : 1 ≤ (escB T d).length := by unfold escB; split <;> simp
    rw [esc_cons, List.length_append, List.length_cons]
    omega
theorem esc_same (T : UInt8 → UInt8) (l : List UInt8) (h : (esc T l).length = l.length) : esc T l = l := by
  induction l with
  | nil => rfl
  | cons c l ih =>
    have h1 := esc_ge T l
    rw [esc_cons, List.length_append, List.length_cons] at h
    rw [esc_cons]
    by_cases hz : T c = 0
    · have e1 : escB T c = [c] := by simp [escB, hz]
      rw [e1] at h ⊢
      rw [ih (by simp only [List.length_singleton] at h; omega)]; rfl
    · have e1 : (escB T c).length = 2 := by simp [escB, hz]
      omega

set_option maxHeartbeats 1000000 in
theorem appendEscaped_same (T : UInt8 → UInt8) (b : Nat) (s : ByteArray) (l : List UInt8) (buf : Value) (w : World) (hs : s.size ≤ 1000000) (hl : l.length ≤ 1000000000) (hE : EscAt w b T) (hB : Own w 5 buf l)
    (hsame : (esc T s.data.toList).length = s.size) :
    Calls Tryz.prog 73 #[.pointer (some ⟨b, 0, none⟩), buf, .string s] w (App w buf (l ++ esc T s.data.toList)) := by
  obtain ⟨es, he1, he2, he3⟩ := hE.set
  have hlen := he3 s.data.toList
  have e0 : s.data.toList.length = s.size := by simp
  rw [hsame, e0] at hlen
  have hres := esc_same T s.data.toList (by rw [hsame, e0])
  rw [hres]
  have HL := Lib.hid hlen; clear hlen he3 hres hsame
  have hsl : s.data.toList.length ≤ 1000000 := by omega
  clear e0
  have HB := Lib.hid hB; clear hB
  have HE := Lib.hid hE; clear hE
  go_enter Tryz.func73, Tryz.ntmps73
  go_wp2_with (first
    | (go_at_call 109; refine (escLen_any b s es _ hs he2 he1).mono ?_; rintro e w' ⟨rfl, rfl⟩; rw [HL.out])
    | (at_builtin; refine wpApp _ rfl (.tmp 16) (.tmp 17) 9 rfl buf l s.data.toList (.string s) rfl rfl HB.out (srcStr _ s) (by omega) ?_; intro v' w1 ho hf hb))
  go_ret
  exact ⟨v', rfl, ho, hf, hb.imp_right fun h => ⟨_, h, Nat.le_refl _⟩⟩

theorem Wrote.row {w' : World} {e : TypeId} {g cap : Nat} {l m : List UInt8} {cur : Array Value} {fr : Nat × Nat} (h2 : ∀ j, j < cur.size → ¬ (fr.1 ≤ j ∧ j < fr.2)) (h3 : cap ≤ cur.size) (h5 : cap ≤ maxLen) (h6 : cur.toList.take l.length = bvs l)
    (hw : Wrote w' e g l.length cur fr m) (hm : l.length + m.length ≤ cap) : Row w' e g cap (l ++ m) := by
  obtain ⟨cur', k1, k2, k3⟩ := hw
  refine ⟨cur', fr, k1, by rw [k2]; exact h2, by omega, by simpa using hm, h5, ?_⟩
  refine take_bvs (n := l.length + m.length) (fun i hi => ?_) (by simp) (by omega)
  rw [k3 i, bvs_append, List.getElem?_append, bvs_length]
  by_cases a : i < l.length
  · rw [if_neg (by omega), if_pos a]
    have h7 := congrArg (fun x => x[i]?) h6
    simp only [List.getElem?_take, if_pos a] at h7
    rw [← h7]; simp
  · rw [if_neg a, if_pos (by omega)]

set_option maxHeartbeats 1000000 in
theorem appendEscaped_room (T : UInt8 → UInt8) (b : Nat) (s : ByteArray) (l : List UInt8) (g cap : Nat) (w : World) (hs : s.size ≤ 1000000) (hl : l.length ≤ 1000000000) (hE : EscAt w b T) (hR : Row w 5 g cap l) (hbg : b ≠ g)
    (hmore : s.size < (esc T s.data.toList).length) (hroom : (esc T s.data.toList).length ≤ cap - l.length) :
    Calls Tryz.prog 73 #[.pointer (some ⟨b, 0, none⟩), .slice (some ⟨g, 0, none⟩) l.length cap, .string s] w (App w (.slice (some ⟨g, 0, none⟩) l.length cap) (l ++ esc T s.data.toList)) := by
  obtain ⟨es, he1, he2, he3⟩ := hE.set
  have hlen := he3 s.data.toList
  have e0 : s.data.toList.length = s.size := by simp
  rw [e0] at hlen
  obtain ⟨cur, fr, h1, h2, h3, h4, h5, h6⟩ := hR
  have hel := esc_len T s.data.toList
  rw [e0] at hel
  obtain ⟨N, hN⟩ : ∃ N, N = (esc T s.data.toList).length := ⟨_, rfl⟩
  rw [← hN] at hlen hmore hroom hel
  have hfin : ∀ w', Wrote w' 5 g l.length cur fr (esc T s.data.toList) → Fr [g] w w' → App w (.slice (some ⟨g, 0, none⟩) l.length cap) (l ++ esc T s.data.toList) (.returned (.slice (some ⟨g, 0, none⟩) (l.length + N) cap)) w' :=
    fun w' hw hf => ⟨_, rfl, .inr ⟨g, cap, by rw [hN, List.length_append], Wrote.row h2 h3 h5 h6 hw (by omega)⟩, hf, .inl rfl⟩
  have HN := Lib.hid hN; clear hN
  have HL := Lib.hid hlen; clear hlen he3 e0
  have HE := Lib.hid hE; clear hE
  have H2 := Lib.hid h2; clear h2
  have H1 := Lib.hid h1; clear h1 h6
  have HF := Lib.hid hfin; clear hfin
  have hcc : cap ≤ 9223372036854775807 := by unfold maxLen at h5; omega
  have hcl : l.length < cap := by omega
  have hne : ¬ (N : Int) = (s.size : Int) := by omega
  have hz1 : ¬ ((cap : Int) - (l.length : Int) < (N : Int)) := by omega
  have hn1 : ((l.length : Int) + (N : Int)).toNat = l.length + N := by omega
  have hn2 : ((l.length : Int) + (N : Int)).toNat - l.length = N := by omega
  go_enter Tryz.func73, Tryz.ntmps73
  go_wp2_with (first
    | (go_at_call 109; refine (escLen_any b s es _ hs he2 he1).mono ?_; rintro e w' ⟨rfl, rfl⟩; rw [HL.out])
    | (go_at_call 110; refine (escape_any T b g l.length N _ s 5 cur fr _ hs HE.out.tab hbg H1.out H2.out HN.out (by omega)).mono ?_; rintro e w1 ⟨rfl, hw1, hf1⟩))
  go_ret
  exact HF.out _ hw1 hf1

set_option maxHeartbeats 1000000 in
theorem appendEscaped_grow (T : UInt8 → UInt8) (b : Nat) (s : ByteArray) (l : List UInt8) (ad : Option Addr) (cap : Nat) (w : World) (hs : s.size ≤ 1000000) (hl : l.length ≤ 1000000000) (hE : EscAt w b T) (hB : Own w 5 (.slice ad l.length cap) l)
    (hcap : l.length ≤ cap ∧ cap ≤ maxLen) (hmore : s.size < (esc T s.data.toList).length) (hroom : cap - l.length < (esc T s.data.toList).length) :
    Calls Tryz.prog 73 #[.pointer (some ⟨b, 0, none⟩), .slice ad l.length cap, .string s] w (App w (.slice ad l.length cap) (l ++ esc T s.data.toList)) := by
  obtain ⟨es, he1, he2, he3⟩ := hE.set
  have hbl : b < w.heap.size := World.block_lt_of_cell? w _ he1
  have hlen := he3 s.data.toList
  have e0 : s.data.toList.length = s.size := by simp
  rw [e0] at hlen
  have hel := esc_len T s.data.toList
  rw [e0] at hel
  obtain ⟨N, hN⟩ : ∃ N, N = (esc T s.data.toList).length := ⟨_, rfl⟩
  rw [← hN] at hlen hmore hroom hel
  obtain ⟨hlc, hcm⟩ := hcap
  have HN := Lib.hid hN; clear hN
  have HL := Lib.hid hlen; clear hlen he3 e0
  have HE := Lib.hid hE; clear hE
  have HB := Lib.hid hB; clear hB
  have hcc : cap ≤ 9223372036854775807 := by unfold maxLen at hcm; omega
  have hne : ¬ (N : Int) = (s.size : Int) := by omega
  have hz1 : ((cap : Int) - (l.length : Int) < (N : Int)) := by omega
  have hn1 : ((l.length : Int) + (N : Int)).toNat = l.length + N := by omega
  have hn2 : ((l.length : Int) + (N : Int)).toNat - l.length = N := by omega
  go_enter Tryz.func73, Tryz.ntmps73
  go_upto_region 5 with (go_at_call 109; refine (escLen_any b s es _ hs he2 he1).mono ?_; rintro e w' ⟨rfl, rfl⟩; rw [HL.out])
  go_upto_region 6 with (at_make; refine wpMake _ rfl (.tmp 27) (.tmp 31) rfl _ _ l.length (l.length + N) rfl rfl rfl (by omega) (by omega) (by omega) ?_; intro w1 hh1 hf1)
  go_wp2_with (with_reducible refine wpCopy w1 rfl (.tmp 33) (.tmp 34) rfl _ (l.length + N) (.slice ad l.length cap) l rfl rfl (HB.out.fr hf1 (by simp)) _ hh1 (by rw [zbytes_size]) (by omega) (by unfold maxLen; omega) ?_; intro w2 hr2 hh2 hf2)
  obtain ⟨cur, fr, k1, k2, k3, k4, k5, k6⟩ := hr2
  have hE2 : EscAt w2 b T := (HE.out.fr hf1 (by simp)).fr hf2 (by simp; omega)
  have hfin : ∀ w3, Wrote w3 5 w'.heap.size l.length cur fr (esc T s.data.toList) → Fr [w'.heap.size] w2 w3 → App w' (.slice ad l.length cap) (l ++ esc T s.data.toList) (.returned (.slice (some ⟨w'.heap.size, 0, none⟩) (l.length + N) (l.length + N))) w3 :=
    fun w3 hw hf => ⟨_, rfl, .inr ⟨w'.heap.size, l.length + N, by rw [HN.out, List.length_append], Wrote.row k2 k3 k5 k6 hw (by have := HN.out; omega)⟩,
      (((hf1.sub (T := (Value.slice ad l.length cap).ownBlock.toList) (by simp)).step hf2 (by simp)).step hf (by simp)), .inr ⟨_, rfl, Nat.le_refl _⟩⟩
  have HF := Lib.hid hfin; clear hfin
  have K1 := Lib.hid k1; clear k1 k6 hh1
  have K2 := Lib.hid k2; clear k2 hh2
  refine (escape_any T b _ l.length N _ s 5 cur fr _ hs hE2.tab (by omega) K1.out K2.out HN.out (by omega)).mono ?_
  rintro e w3 ⟨rfl, hw3, hf3⟩
  have HW3 := Lib.hid hw3; clear hw3
  go_wp2
  go_ret
  exact HF.out _ HW3.out hf3

/-- appendEscaped, WHOLE. -/
theorem appendEscaped_any (T : UInt8 → UInt8) (b : Nat) (s : ByteArray) (l : List UInt8) (buf : Value) (w : World) (hs : s.size ≤ 1000000) (hl : l.length ≤ 1000000000) (hE : EscAt w b T) (hB : Own w 5 buf l)
    (hne : ∀ g, buf.ownBlock = some g → b ≠ g) :
    Calls Tryz.prog 73 #[.pointer (some ⟨b, 0, none⟩), buf, .string s] w (App w buf (l ++ esc T s.data.toList)) := by
  have hge := esc_ge T s.data.toList
  have e0 : s.data.toList.length = s.size := by simp
  by_cases h : (esc T s.data.toList).length = s.size
  · exact appendEscaped_same T b s l buf w hs hl hE hB h
  · rcases hB with ⟨rfl, rfl⟩ | ⟨g, cap, rfl, hR⟩
    · exact appendEscaped_grow T b s [] none 0 w hs (by simp) hE (.inl ⟨rfl, rfl⟩) ⟨Nat.le_refl _, Nat.zero_le _⟩ (by omega) (by simp; omega)
    · have hR' := hR
      obtain ⟨cur, fr, h1, h2, h3, h4, h5, h6⟩ := hR'
      by_cases hroom : (esc T s.data.toList).length ≤ cap - l.length
      · exact appendEscaped_room T b s l g cap w hs hl hE hR (hne g rfl) (by omega) hroom
      · exact appendEscaped_grow T b s l _ cap w hs hl hE (.inr ⟨g, cap, rfl, hR⟩) ⟨h4, h5⟩ (by omega) (by omega)

end Go.Proofs.YtaaogjhaokaggaaGreatDoor
namespace Go.Proofs.YtaaogjhaokaggaaGreatDoor
open Go.RowKit

/-- A new variable of a type with a known zero. -/
theorem wpAlloc (w : World) {ops : Array Oper} {rest : List Oper} {o : Oper} {a : Act} {Q : Exit → Act → World → Prop}
    (hg : o.guard = none) (ty : TypeId) (hop : o.op = Op.alloc ty) (z : Value) (hz : (Tryz.prog.info? ty).bind (·.zero) = some z)
    (hK : ∀ w', w'.heap[w.heap.size]? = some (.cells z.cells ty (0, 0)) → Fr [] w w' → w'.heap.size = w.heap.size + 1 → wpList Tryz.prog ops Q rest (a.put o.dst (.pointer (some ⟨w.heap.size, 0, none⟩))) w') :
    wpList Tryz.prog ops Q (o :: rest) a w := by
  refine wpList_plain hg fun K hK' => ?_
  have hrun : (Instr.alloc ty true (.tuple #[])).run Tryz.prog w = .ok (.pointer (some ⟨w.heap.size, 0, none⟩)) (w.alloc (.cells z.cells ty)) := by
    obtain ⟨i, hi, hz'⟩ := Option.bind_eq_some_iff.1 hz
    simp [Instr.alloc, zeroValue, typeInfo, hi, hz', newVar, newRow]
  unfold Oper.wp
  simp only [execOp, hop]
  rw [Sem.run_bind, hrun]
  simp [Result.andThen]
  exact hK' _ _ (hK _ (heap_alloc_new w _) ((Fr.refl _ _).alloc _) (by simp))

theorem fr_iter (w : World) (s : ByteArray) (p : Nat) : Fr [] w (w.iter s p) := (Fr.refl [] w).alloc (.stringIter s p)
theorem fr_iterAt (w : World) (k : Nat) (s : ByteArray) (p : Nat) : Fr [k] w (w.iterAt k s p) :=
  ⟨rfl, rfl, rfl, by simp [World.iterAt], fun j _ hj => by simp only [World.iterAt]; simp at hj; simp [Ne.symm hj]⟩

/-- What a new escaper's cells are. -/
def ez : Array Value := (Array.replicate 512 (.int .u8 0)).push (.string ⟨#[]⟩)
theorem info175 : (Tryz.prog.info? 175).bind (·.zero) = some (.agg ez) := by kernel_rfl

def xOf (c : UInt8) : UInt8 := if c = 10 then 110 else if c = 13 then 114 else if c = 9 then 116 else c
theorem qOf_x (c : UInt8) (q : List UInt8) (hq : qOf c = some q) : (q = [xOf c] ∧ xOf c ≠ 92) ∨ q = [92, xOf c] := by
  unfold qOf at hq
  split at hq
  · subst_vars; cases hq; exact .inr rfl
  split at hq
  · subst_vars; cases hq; exact .inr rfl
  split at hq
  · subst_vars; cases hq; exact .inr rfl
  split at hq
  · subst_vars; cases hq; exact .inr rfl
  split at hq
  · rename_i h1 h2 h3 h4 h
    cases hq
    have : xOf c = c := by simp [xOf, h2, h3, h4]
    rw [this]
    exact .inl ⟨rfl, h1⟩
  · cases hq

/-- The cells of an escaper behind some bytes. -/
def escCells (l : List UInt8) : Array Value := l.foldl (fun a c => (a.setIfInBounds c.toNat (.int .u8 ((xOf c).toNat : Int))).setIfInBounds (256 + (xOf c).toNat) (.int .u8 (c.toNat : Int))) ez
theorem escCells_snoc (l : List UInt8) (c : UInt8) : escCells (l ++ [c]) = ((escCells l).setIfInBounds c.toNat (.int .u8 ((xOf c).toNat : Int))).setIfInBounds (256 + (xOf c).toNat) (.int .u8 (c.toNat : Int)) := by
  simp [escCells]
theorem escCells_size (l : List UInt8) : (escCells l).size = 513 := by
  unfold escCells
  suffices h : ∀ (l : List UInt8) (a : Array Value), (l.foldl (fun a c => (a.setIfInBounds c.toNat (.int .u8 ((xOf c).toNat : Int))).setIfInBounds (256 + (xOf c).toNat) (.int .u8 (c.toNat : Int))) a).size = a.size by
    rw [h]; simp [ez]
  intro l
  induction l with
  | nil => intro a; rfl
  | cons c l ih => intro a; rw [List.foldl_cons, ih]; simp

theorem trim_q (c : UInt8) (q : List UInt8) (hq : qOf c = some q) (w : World) :
    Calls Tryz.prog 133 #[.string ⟨q.toArray⟩, .string ⟨#[92]⟩] w fun e w' => e = .returned (.string ⟨#[xOf c]⟩) ∧ w = w' := by
  rcases qOf_x c q hq with ⟨h1, h2⟩ | h1
  · subst h1; exact trim_one _ h2 w
  · subst h1; exact trim_two _ w

theorem slice_mid {a b : UInt8} (q : List UInt8) (wx : World) : (Instr.slice 9 (.string ⟨([a] ++ q ++ [b]).toArray⟩) (some (.int .i64 1)) (some (.int .i64 (((⟨([a] ++ q ++ [b]).toArray⟩ : ByteArray).size : Int) - 1))) none).run Tryz.prog wx = .ok (.string ⟨q.toArray⟩) wx := by
  have hsz : (⟨([a] ++ q ++ [b]).toArray⟩ : ByteArray).size = q.length + 2 := by show ([a] ++ q ++ [b]).toArray.size = _; simp
  rw [hsz, show (((q.length + 2 : Nat) : Int) - 1) = ((q.length + 1 : Nat) : Int) by omega]
  rw [run_slice_string (P := Tryz.prog) wx 9 ⟨([a] ++ q ++ [b]).toArray⟩ .i64 .i64 1 ((q.length + 1 : Nat) : Int) Tryz.underlying9 (by omega) (by omega) (by rw [hsz]; omega)]
  congr 2
  apply ByteArray.ext
  rw [ByteArray.data_extract]
  apply Array.ext'
  simp

set_option maxHeartbeats 1000000 in
theorem newEscaper_any (s : ByteArray) (hq : ∀ c, c ∈ s.data.toList → (qOf c).isSome = true) (w : World) :
    Calls Tryz.prog 108 #[.string s] w fun e w' => e = .returned (.pointer (some ⟨w.heap.size, 0, none⟩)) ∧ w'.heap[w.heap.size]? = some (.cells ((escCells s.data.toList).setIfInBounds 512 (.string s)) 175 (0, 0)) ∧ Fr [] w w' := by
  have HQ := Lib.hid hq; clear hq
  go_enter Tryz.func108, Tryz.ntmps108
  go_wp2_with (with_reducible refine wpAlloc (o := ⟨some 3, _, _, _, _, _⟩) w rfl 175 rfl _ info175 ?_; intro w1 hh1 hf1 hz1)
  go_loopw [5, 6] (fun _ _ wr => ∃ k : Nat, k ≤ s.size ∧ wr.heap[w.heap.size]? = some (.cells (escCells (s.data.toList.take k)) 175 (0, 0)) ∧ wr.heap[w.heap.size + 1]? = some (.stringIter s k) ∧ Fr [] w wr)
    (fun _ _ wr => s.size - wr.iterPos (w.heap.size + 1))
  case atStart =>
    have hi1 := World.iter_heap w1 s 0
    rw [hz1] at hi1
    have hfi : Fr [] w1 (w1.iter s 0) := fr_iter w1 s 0
    exact ⟨0, Nat.zero_le _, by simpa [escCells, Value.cells] using hfi.blk hh1 (by simp), hi1, hf1.trans hfi⟩
  case round =>
    obtain ⟨k, hk, hc, hit, hf⟩ := hrel
    by_cases hlt : k < s.size
    · have hin : s[k] ∈ s.data.toList := by
        have : s.data.toList[k]? = some s[k] := by rw [Array.getElem?_toList]; exact Array.getElem?_eq_getElem hlt
        exact List.mem_of_getElem? this
      obtain ⟨q, hq⟩ := Option.isSome_iff_exists.1 (HQ.out _ hin)
      have ha := (qOf_le _ _ hq).1
      have hnx : ∀ ty, (Instr.next (.pointer (some ⟨w.heap.size + 1, 0, none⟩)) true ty).run Tryz.prog wr = _ := fun ty => Lib.run_next_ascii_at wr (w.heap.size + 1) s k ty hit hlt (by omega)
      have hfa : Fr [] w (wr.iterAt (w.heap.size + 1) s (k + 1)) := hf.step (fr_iterAt wr (w.heap.size + 1) s (k + 1)) (by simp)
      have hca : (wr.iterAt (w.heap.size + 1) s (k + 1)).heap[w.heap.size]? = some (.cells (escCells (s.data.toList.take k)) 175 (0, 0)) := (fr_iterAt wr (w.heap.size + 1) s (k + 1)).blk hc (by simp)
      have hia := Lib.iterAt_heap wr (w.heap.size + 1) s k (k + 1) hit
      have hts := take_succ s k hlt
      have hes := escCells_snoc (s.data.toList.take k) s[k]
      rw [← hts] at hes
      have HES := Lib.hid hes; clear hes hts
      have HCA := Lib.hid hca; clear hca hc
      have HIA := Lib.hid hia; clear hia
      have HIT := Lib.hid hit; clear hit
      have HQQ := Lib.hid hq; clear hq
      clear hin
      obtain ⟨x, hx⟩ : ∃ x, x = xOf s[k] := ⟨_, rfl⟩
      have HX := Lib.hid hx; clear hx
      have hstep : ∀ w2 : World, Fr [] (wr.iterAt (w.heap.size + 1) s (k + 1)) w2 →
          (∃ v1, w2.cell? ⟨w.heap.size, s[k].toNat, none⟩ = some v1) ∧ (∃ v2, w2.cell? ⟨w.heap.size, 256 + x.toNat, none⟩ = some v2) ∧ w2.frozen? ⟨w.heap.size, s[k].toNat, none⟩ = false ∧ w2.frozen? ⟨w.heap.size, 256 + x.toNat, none⟩ = false ∧
          (∃ k', k' ≤ s.size ∧ k < k' ∧ ((w2.setCell ⟨w.heap.size, s[k].toNat, none⟩ (.int .u8 (x.toNat : Int))).setCell ⟨w.heap.size, 256 + x.toNat, none⟩ (.int .u8 (s[k].toNat : Int))).heap[w.heap.size]? = some (.cells (escCells (s.data.toList.take k')) 175 (0, 0)) ∧
            ((w2.setCell ⟨w.heap.size, s[k].toNat, none⟩ (.int .u8 (x.toNat : Int))).setCell ⟨w.heap.size, 256 + x.toNat, none⟩ (.int .u8 (s[k].toNat : Int))).heap[w.heap.size + 1]? = some (.stringIter s k') ∧
            Fr [] w ((w2.setCell ⟨w.heap.size, s[k].toNat, none⟩ (.int .u8 (x.toNat : Int))).setCell ⟨w.heap.size, 256 + x.toNat, none⟩ (.int .u8 (s[k].toNat : Int)))) := by
        intro w2 h2
        have c2 := h2.blk HCA.out (by simp)
        have hsz := escCells_size (s.data.toList.take k)
        have hx2 := x.toNat_lt
        refine ⟨⟨(escCells (s.data.toList.take k))[s[k].toNat], ?_⟩, ⟨(escCells (s.data.toList.take k))[256 + x.toNat], ?_⟩, frozen_of_row _ _ _ _ _ c2, frozen_of_row _ _ _ _ _ c2, k + 1, by omega, by omega, ?_, ?_, ?_⟩
        · rw [cell_of_row w2 _ _ _ _ _ c2]; simp
        · rw [cell_of_row w2 _ _ _ _ _ c2]; simp
        · rw [HES.out]
          have a1 := heap_setCell_same w2 w.heap.size s[k].toNat _ 175 (.int .u8 (x.toNat : Int)) c2
          have a2 := heap_setCell_same _ w.heap.size (256 + x.toNat) _ 175 (.int .u8 (s[k].toNat : Int)) a1
          rw [a2, HX.out]
        · rw [heap_setCell_other _ _ _ _ (by simp), heap_setCell_other _ _ _ _ (by simp)]
          exact h2.blk HIA.out (by simp)
        · exact (((hfa.trans h2)).setCell (.inr (Nat.le_refl _)) _).setCell (.inr (Nat.le_refl _)) _
      have HST := Lib.hid hstep; clear hstep
      have htrim : ∀ w2, Calls Tryz.prog 133 #[.string ⟨q.toArray⟩, .string ⟨#[92]⟩] w2 fun e w' => e = .returned (.string ⟨#[x]⟩) ∧ w2 = w' := fun w2 => by rw [HX.out]; exact trim_q _ _ HQQ.out w2
      have hquo : ∀ w2, Calls Tryz.prog 132 #[.int .i32 (s[k].toNat : Int)] w2 fun e w' => e = .returned (.string ⟨([39] ++ q ++ [39]).toArray⟩) ∧ Fr [] w2 w' := fun w2 => quoteRune_any _ _ HQQ.out w2
      have hqx := qOf_x _ _ HQQ.out
      rw [← HX.out] at hqx
      have hsl : ∀ wx, (Instr.slice 9 (.string ⟨([39] ++ q ++ [39]).toArray⟩) (some (.int .i64 1)) (some (.int .i64 (((⟨([39] ++ q ++ [39]).toArray⟩ : ByteArray).size : Int) - 1))) none).run Tryz.prog wx = .ok (.string ⟨q.toArray⟩) wx := fun wx => by
        rcases hqx with ⟨rfl, _⟩ | rfl
        · exact slice_mid (a := 39) (b := 39) [x] wx
        · exact slice_mid (a := 39) (b := 39) [92, x] wx
      obtain ⟨S, hS⟩ : ∃ S : ByteArray, S = ⟨([39] ++ q ++ [39]).toArray⟩ := ⟨_, rfl⟩
      have hSs : 2 ≤ S.size := by rw [hS]; show 2 ≤ ([39] ++ q ++ [39]).toArray.size; simp
      have hSt : S.size ≤ 100 := by have := (qOf_le _ _ HQQ.out).2; rw [hS]; show ([39] ++ q ++ [39]).toArray.size ≤ 100; simp; omega
      rw [← hS] at hsl hquo
      obtain ⟨U, hU⟩ : ∃ U : ByteArray, U = ⟨q.toArray⟩ := ⟨_, rfl⟩
      rw [← hU] at hsl htrim
      clear hS hU hqx
      have hix : ∀ wx, (Instr.index 9 (.string ⟨#[x]⟩) (.int .i64 0)).run Tryz.prog wx = .ok (.int .u8 (x.toNat : Int)) wx := fun wx => by
        simp [go_sem, Tryz.underlying9]
        rfl
      obtain ⟨V, hV⟩ : ∃ V : ByteArray, V = ⟨#[x]⟩ := ⟨_, rfl⟩
      rw [← hV] at hix htrim
      clear hV
      have HT := Lib.hid htrim; clear htrim
      have hx256 : (x.toNat : Int) < 256 := by have := x.toNat_lt; omega
      have hs256 : (s[k].toNat : Int) < 256 := by omega
      have hx256 : (x.toNat : Int) < 256 := by have := x.toNat_lt; omega
      have hs256 : (s[k].toNat : Int) < 256 := by omega
      have HQU := Lib.hid hquo; clear hquo
      go_upto_region 6 with (go_at_call 132; refine (HQU.out _).mono ?_; rintro e w2 ⟨rfl, hw2⟩; obtain ⟨⟨v1, c1⟩, ⟨v2, c2⟩, z1, z2, hend⟩ := HST.out w2 hw2; have HEND := Lib.hid hend; clear hend)
      go_wp2_with fail
      refine (HT.out _).mono ?_
      rintro e w3 ⟨rfl, rfl⟩
      go_wp2
      have hp0 : wr.iterPos (w.heap.size + 1) = k := by simp [World.iterPos, HIT.out]
      go_roundw
      case rel =>
        obtain ⟨k', h1, _, h3, h4, h5⟩ := HEND.out
        exact ⟨k', h1, h3, h4, h5⟩
      case measure =>
        obtain ⟨k', h1, h2, h3, h4, h5⟩ := HEND.out
        rw [hp0]
        have hp1 : ∀ ww : World, ww.heap[w.heap.size + 1]? = some (.stringIter s k') → ww.iterPos (w.heap.size + 1) = k' := fun ww h => by simp [World.iterPos, h]
        rw [hp1 _ h4]
        omega
    · have hnx : ∀ ty, (Instr.next (.pointer (some ⟨w.heap.size + 1, 0, none⟩)) true ty).run Tryz.prog wr = _ := fun ty => Lib.run_next_end_at wr (w.heap.size + 1) s k ty hit hlt
      obtain ⟨v, hv⟩ : ∃ v, wr.cell? ⟨w.heap.size, 512, none⟩ = some v := ⟨_, by rw [cell_of_row wr _ _ _ _ _ hc]; exact Array.getElem?_eq_getElem (by rw [escCells_size]; omega)⟩
      have hz := frozen_of_row wr w.heap.size 512 _ 175 hc
      have hend := heap_setCell_same wr w.heap.size 512 _ 175 (.string s) hc
      have hfe : Fr [] w (wr.setCell ⟨w.heap.size, 512, none⟩ (.string s)) := hf.setCell (.inr (Nat.le_refl _)) _
      have : k = s.size := by omega
      subst this
      rw [List.take_of_length_le (Nat.le_of_eq (by simp))] at hend
      have HE := Lib.hid hend; clear hend hc hit
      go_wp2
      go_ret
      exact ⟨rfl, HE.out, hfe⟩
end Go.Proofs.YtaaogjhaokaggaaGreatDoor
namespace Go.Proofs.YtaaogjhaokaggaaGreatDoor
open Go.RowKit

/-- The table of an escaper of some bytes. -/
def tOf (es : List UInt8) (c : UInt8) : UInt8 := if c ∈ es then xOf c else 0

theorem escCells_gen (c : UInt8) : ∀ (es : List UInt8) (a : Array Value), a.size = 513 →
    (es.foldl (fun a c => (a.setIfInBounds c.toNat (.int .u8 ((xOf c).toNat : Int))).setIfInBounds (256 + (xOf c).toNat) (.int .u8 (c.toNat : Int))) a)[c.toNat]? = if c ∈ es then some (.int .u8 ((xOf c).toNat : Int)) else a[c.toNat]?
  | [], a, _ => by simp
  | d :: es, a, ha => by
    have hc := c.toNat_lt
    have hd := d.toNat_lt
    rw [List.foldl_cons, escCells_gen c es _ (by simp [ha])]
    by_cases h : c ∈ es
    · rw [if_pos h, if_pos (by simp [h])]
    · rw [if_neg h, Array.getElem?_setIfInBounds, if_neg (by omega), Array.getElem?_setIfInBounds]
      by_cases e : d.toNat = c.toNat
      · have e' : d = c := UInt8.toNat_inj.1 e
        subst e'
        rw [if_pos rfl, if_pos (by omega), if_pos (by simp)]
      · have e' : c ≠ d := fun h => e (by rw [h])
        rw [if_neg e, if_neg (by simp [h, e'])]
theorem escCells_at (es : List UInt8) (c : UInt8) : (escCells es)[c.toNat]? = some (.int .u8 ((tOf es c).toNat : Int)) := by
  have hc := c.toNat_lt
  rw [escCells, escCells_gen c es ez (by simp [ez])]
  unfold tOf
  by_cases h : c ∈ es
  · rw [if_pos h, if_pos h]
  · rw [if_neg h, if_neg h, ez, Array.getElem?_push_lt (by simp; omega)]
    simp

theorem xOf_ne (c : UInt8) (h : c ≠ 0) : xOf c ≠ 0 := by
  unfold xOf
  split
  · decide
  split
  · decide
  split
  · decide
  · exact h

theorem count_nodup (es : List UInt8) (hn : es.Nodup) (c : UInt8) : (es.map (fun e => if c == e then 1 else 0)).sum = if c ∈ es then 1 else 0 := by
  induction es with
  | nil => simp
  | cons e es ih =>
    rw [List.nodup_cons] at hn
    simp only [List.map_cons, List.sum_cons, ih hn.2, List.mem_cons]
    by_cases h : c = e
    · subst h
      simp [hn.1]
    · simp [h]

theorem sumCnt_cons (es : List UInt8) (c : UInt8) (l : List UInt8) : sumCnt es (c :: l) = (es.map (fun e => if c == e then 1 else 0)).sum + sumCnt es l := by
  unfold sumCnt
  induction es with
  | nil => simp
  | cons e es ih =>
    simp only [List.map_cons, List.sum_cons, ih]
    have : cnt e (c :: l) = (if c == e then 1 else 0) + cnt e l := by
      unfold cnt
      by_cases h : c == e
      · simp [h]; omega
      · simp [h]
    omega

theorem esc_count (es : List UInt8) (hn : es.Nodup) (h0 : (0 : UInt8) ∉ es) (l : List UInt8) : l.length + sumCnt es l = (esc (tOf es) l).length := by
  induction l with
  | nil =>
    have : sumCnt es [] = 0 := by
      clear hn h0
      induction es with
      | nil => rfl
      | cons e es ih => simpa [sumCnt, cnt] using ih
    simp [this, esc]
  | cons c l ih =>
    rw [sumCnt_cons, count_nodup es hn, esc_cons, List.length_append, List.length_cons]
    have : (escB (tOf es) c).length = 1 + if c ∈ es then 1 else 0 := by
      unfold escB tOf
      by_cases h : c ∈ es
      · have : c ≠ 0 := fun e => h0 (e ▸ h)
        simp [h, xOf_ne c this]
      · simp [h]
    omega

/-- newEscaper, as what is asked of an escaper. -/
theorem newEscaper_at (s : ByteArray) (hs : s.size ≤ 10) (hq : ∀ c, c ∈ s.data.toList → (qOf c).isSome = true) (hn : s.data.toList.Nodup) (h0 : (0 : UInt8) ∉ s.data.toList) (w : World) :
    Calls Tryz.prog 108 #[.string s] w fun e w' => e = .returned (.pointer (some ⟨w.heap.size, 0, none⟩)) ∧ EscAt w' w.heap.size (tOf s.data.toList) ∧ Fr [] w w' := by
  refine (newEscaper_any s hq w).mono ?_
  rintro e w' ⟨h1, h2, h3⟩
  refine ⟨h1, ⟨fun c => ?_, ⟨s, ?_, hs, esc_count _ hn h0⟩⟩, h3⟩
  · have hc := c.toNat_lt
    rw [cell_of_row w' _ _ _ _ _ h2, Array.getElem?_setIfInBounds, if_neg (by omega), escCells_at]
  · rw [cell_of_row w' _ _ _ _ _ h2, Array.getElem?_setIfInBounds, if_pos rfl, if_pos (by rw [escCells_size]; omega)]

def sM : List UInt8 := [32, 44]
def sK : List UInt8 := [44, 61, 32]
def sV : List UInt8 := [44, 32, 61]
def sS : List UInt8 := [92, 34, 10, 13, 9]

/-- What a call that makes an escaper leaves. -/
def MadeEsc (es : List UInt8) (w : World) (e : Ending) (w' : World) : Prop := e = .returned (.pointer (some ⟨w.heap.size, 0, none⟩)) ∧ EscAt w' w.heap.size (tOf es) ∧ Fr [] w w'

theorem escM_any (w : World) : Calls Tryz.prog 116 #[] w (MadeEsc sM w) := by
  have h := newEscaper_at ⟨#[32, 44]⟩ (by decide) (by decide) (by decide) (by decide)
  go_enter Tryz.func116, Tryz.ntmps116
  go_wp2_with (go_at_call 108; refine (h _).mono ?_; rintro e w1 ⟨rfl, h1, h2⟩)
  go_ret
  exact ⟨rfl, h1, h2⟩
theorem escK_any (w : World) : Calls Tryz.prog 117 #[] w (MadeEsc sK w) := by
  have h := newEscaper_at ⟨#[44, 61, 32]⟩ (by decide) (by decide) (by decide) (by decide)
  go_enter Tryz.func117, Tryz.ntmps117
  go_wp2_with (go_at_call 108; refine (h _).mono ?_; rintro e w1 ⟨rfl, h1, h2⟩)
  go_ret
  exact ⟨rfl, h1, h2⟩
theorem escV_any (w : World) : Calls Tryz.prog 118 #[] w (MadeEsc sV w) := by
  have h := newEscaper_at ⟨#[44, 32, 61]⟩ (by decide) (by decide) (by decide) (by decide)
  go_enter Tryz.func118, Tryz.ntmps118
  go_wp2_with (go_at_call 108; refine (h _).mono ?_; rintro e w1 ⟨rfl, h1, h2⟩)
  go_ret
  exact ⟨rfl, h1, h2⟩
theorem escS_any (w : World) : Calls Tryz.prog 72 #[] w (MadeEsc sS w) := by
  have h := newEscaper_at ⟨#[92, 34, 10, 13, 9]⟩ (by decide) (by decide) (by decide) (by decide)
  go_enter Tryz.func72, Tryz.ntmps72
  go_wp2_with (go_at_call 108; refine (h _).mono ?_; rintro e w1 ⟨rfl, h1, h2⟩)
  go_ret
  exact ⟨rfl, h1, h2⟩
theorem escF_any (w : World) : Calls Tryz.prog 119 #[] w (MadeEsc sK w) := by
  go_enter Tryz.func119, Tryz.ntmps119
  go_wp2_with (go_at_call 117; refine (escK_any _).mono ?_; rintro e w1 ⟨rfl, h1, h2⟩)
  go_ret
  exact ⟨rfl, h1, h2⟩
end Go.Proofs.YtaaogjhaokaggaaGreatDoor
