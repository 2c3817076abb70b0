import Derived.Test.YtaaogjhaokaggaaGreatDoorQuo
import Derived.Lib.BufferRead
namespace Go.Proofs.YtaaogjhaokaggaaGreatDoor
open Go.RowKit

/-- string(b) of an owned row of bytes. -/
theorem conv_own {w : World} {v : Value} {l : List UInt8} (h : Own w 5 v l) : (convert 66 9 v).run Tryz.prog w = .ok (.string ⟨l.toArray⟩) w := by
  rcases h with ⟨rfl, rfl⟩ | ⟨g, cap, rfl, hr⟩
  · exact Lib.run_convert_nil_bytes w 66 9 5 0 u66 Tryz.underlying5 u9
  · exact run_convert_bytes_back (P := Tryz.prog) w 66 9 5 ⟨g, 0, none⟩ cap l u66 Tryz.underlying5 u9 (fun j hj => by
      have hadd : (⟨g, 0, none⟩ : Addr).add j = ⟨g, j, none⟩ := by unfold Addr.add; split <;> simp_all
      rw [hadd, hr.cell hj]; rfl)

set_option maxHeartbeats 400000 in
theorem quoteRuneWith_any (c : UInt8) (q : List UInt8) (hq : qOf c = some q) (w : World) :
    Calls Tryz.prog 162 #[.int .i32 (c.toNat : Int), .int .u8 39, .bool false, .bool false] w fun e w' => e = .returned (.string ⟨([39] ++ q ++ [39]).toArray⟩) ∧ Fr [] w w' := by
  have HQ := Lib.hid hq; clear hq
  obtain ⟨r, hr⟩ : ∃ r : Int, r = (c.toNat : Int) := ⟨_, rfl⟩
  rw [← hr]
  have HR := Lib.hid hr; clear hr
  obtain ⟨S, hS⟩ : ∃ S : ByteArray, S = ⟨([39] ++ q ++ [39]).toArray⟩ := ⟨_, rfl⟩
  rw [← hS]
  have HS := Lib.hid hS; clear hS
  go_enter Tryz.func162, Tryz.ntmps162
  go_wp2_with (go_at_call 184; rw [HR.out]; refine (appQuoted_any c q HQ.out _).mono ?_; rintro e w1 ⟨v1, rfl, ho1, hs1⟩; have hcv := conv_own ho1; rw [← HS.out] at hcv; have HO1 := Lib.hid ho1; clear ho1)
  go_ret
  exact ⟨rfl, hs1.1.sub (by simp [Value.ownBlock])⟩

set_option maxHeartbeats 400000 in
theorem quoteRune_any (c : UInt8) (q : List UInt8) (hq : qOf c = some q) (w : World) :
    Calls Tryz.prog 132 #[.int .i32 (c.toNat : Int)] w fun e w' => e = .returned (.string ⟨([39] ++ q ++ [39]).toArray⟩) ∧ Fr [] w w' := by
  have HQ := Lib.hid hq; clear hq
  obtain ⟨r, hr⟩ : ∃ r : Int, r = (c.toNat : Int) := ⟨_, rfl⟩
  rw [← hr]
  have HR := Lib.hid hr; clear hr
  obtain ⟨S, hS⟩ : ∃ S : ByteArray, S = ⟨([39] ++ q ++ [39]).toArray⟩ := ⟨_, rfl⟩
  rw [← hS]
  have HS := Lib.hid hS; clear hS
  go_enter Tryz.func132, Tryz.ntmps132
  go_wp2_with (go_at_call 162; rw [HR.out]; refine (quoteRuneWith_any c q HQ.out _).mono ?_; rintro e w1 ⟨rfl, hs1⟩; rw [← HS.out])
  go_ret
  exact ⟨rfl, hs1⟩

theorem trim_one (x : UInt8) (hx : x ≠ 92) (w : World) :
    Calls Tryz.prog 133 #[.string ⟨#[x]⟩, .string ⟨#[92]⟩] w fun e w' => e = .returned (.string ⟨#[x]⟩) ∧ w = w' := by
  have hb : (((⟨#[x]⟩ : ByteArray).extract 0 1).toList == [92]) = false := by
    rw [ByteArray.toList_eq, ByteArray.data_extract]; simp [hx]
  go_enter Tryz.func133, Tryz.ntmps133
  go_wp2
  go_ret
  exact ⟨rfl, rfl⟩
theorem trim_two (x : UInt8) (w : World) :
    Calls Tryz.prog 133 #[.string ⟨#[92, x]⟩, .string ⟨#[92]⟩] w fun e w' => e = .returned (.string ⟨#[x]⟩) ∧ w = w' := by
  have hb : (((⟨#[92, x]⟩ : ByteArray).extract 0 1).toList == [92]) = true := by
    rw [ByteArray.toList_eq, ByteArray.data_extract]; simp
  have he : (⟨#[92, x]⟩ : ByteArray).extract 1 2 = ⟨#[x]⟩ := by
    apply ByteArray.ext
    rw [ByteArray.data_extract]; simp
  go_enter Tryz.func133, Tryz.ntmps133
  go_wp2

  go_ret
  exact ⟨rfl, rfl⟩
end Go.Proofs.YtaaogjhaokaggaaGreatDoor
