import Derived.Test.YtaaogjhaokaggaaGreatDoorBase
import Derived.Test.YtaaogjhaokaggaaGreatDoorProg
import Derived.Deep.DeepCutAuto
import Derived.Outline
namespace Go.Proofs.YtaaogjhaokaggaaGreatDoor
open Go.RowKit

/-- How often a byte stands in a list. -/
def cnt (c : UInt8) (l : List UInt8) : Nat := (l.filter (· == c)).length
theorem cnt_le (c : UInt8) (l : List UInt8) : cnt c l ≤ l.length := List.length_filter_le _ _
theorem cnt_snoc (c b : UInt8) (l : List UInt8) : cnt c (l ++ [b]) = cnt c l + if b == c then 1 else 0 := by
  unfold cnt; rw [List.filter_append]; by_cases h : b == c <;> simp [h]
theorem take_succ (s : ByteArray) (k : Nat) (h : k < s.size) : s.data.toList.take (k + 1) = s.data.toList.take k ++ [s[k]] := by
  rw [List.take_succ_eq_append_getElem (by simpa using h)]; rfl

theorem one_at (s : ByteArray) (k : Nat) (h : k < s.size) : (s.extract k (k + 1)).toList = [s[k]] := by
  have e : (s.extract k (k + 1)).data.toList = [s[k]] := by
    rw [ByteArray.data_extract, Array.toList_extract, List.extract_eq_take_drop, show k + 1 - k = 1 by omega, List.take_one]
    have : s.data.toList[k]? = some s[k] := by
      rw [Array.getElem?_toList]; exact Array.getElem?_eq_getElem h
    rw [List.head?_drop, this]; rfl
  rw [ByteArray.toList_eq]
  exact e

set_option maxHeartbeats 400000 in
theorem zzCount_any (s : ByteArray) (c : UInt8) (w : World) (hs : s.size ≤ 140737488351232) :
    Calls Tryz.prog 134 #[.string s, .string ⟨#[c]⟩] w fun e w' => e = .returned (.int .i64 (cnt c s.data.toList)) ∧ w' = w := by
  go_enter Tryz.func134, Tryz.ntmps134
  go_wp2
  go_loop [5, 6] (fun n i => ∃ k : Nat, k ≤ s.size ∧ i = .int .i64 k ∧ n = .int .i64 (cnt c (s.data.toList.take k))) (fun _ i => s.size - (intOf i).toNat)
  case atStart => exact ⟨0, Nat.zero_le _, rfl, rfl⟩
  case round =>
    obtain ⟨k, hk, rfl, rfl⟩ := hrel
    have hcl := cnt_le c (s.data.toList.take k)
    have hl : (s.data.toList.take k).length ≤ k := List.length_take_le _ _
    by_cases hlt : k < s.size
    · have hts := take_succ s k hlt
      have hsn := cnt_snoc c s[k] (s.data.toList.take k)
      rw [← hts] at hsn
      have HS := Lib.hid hsn; clear hsn hts
      have ho := one_at s k hlt
      have HO := Lib.hid ho; clear ho
      go_wp2
      all_goals
        go_round
        case rel =>
          refine ⟨k + 1, by omega, by go_num, ?_⟩
          first
            | (have h : ((s.extract k (k + 1)).toList == [c]) = true := by assumption
               rw [HO.out] at h; rw [HS.out, if_pos (by simpa using h)]; go_num)
            | (have h : ((s.extract k (k + 1)).toList == [c]) = false := by assumption
               rw [HO.out] at h; rw [HS.out, if_neg (by simpa using h)]; go_num)
        case measure => simp [intOf]; omega
    · go_wp2
      go_ret
      have : k = s.size := by omega
      subst this
      exact ⟨ret_int (by rw [List.take_of_length_le (Nat.le_of_eq (by simp))]), rfl⟩
end Go.Proofs.YtaaogjhaokaggaaGreatDoor
