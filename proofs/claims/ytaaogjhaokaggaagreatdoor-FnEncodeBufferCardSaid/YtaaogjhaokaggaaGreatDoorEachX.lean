import Derived.Test.YtaaogjhaokaggaaGreatDoorEachR
namespace Go.Proofs.YtaaogjhaokaggaaGreatDoor
open Go.RowKit

set_option maxRecDepth 100000 in
set_option maxHeartbeats 4000000 in
theorem each_early (l : List LnD) (v : Value) (lax : Bool) (q : Int) (w : World) (hlen : l.length ≤ 9223372036854775807) (hok : ∀ e, e ∈ l → LnOk e) (hP : LinesIn w v l) (hf : fitLs l = false) :
    Calls Tryz.prog 7 #[v, .bool lax, .int .i64 q] w fun e w' => e = .returned (.bool true) ∧ Fr [] w w' := by
  have hz := zzFits4_any l v w hlen hok hP
  rw [hf] at hz
  have HZ := Lib.hid hz
  clear hz hP hok hf
  go_enter Tryz.func7, Tryz.ntmps7
  go_wp2_with (go_at_call 20; refine HZ.out.mono ?_; rintro e w1 ⟨rfl, hf1⟩)
  go_ret
  exact ⟨rfl, hf1⟩
theorem fits_len {l : List LnD} (h : fitLs l = true) : l.length ≤ 2147483647 := by
  unfold fitLs at h
  rw [Bool.and_eq_true] at h
  exact of_decide_eq_true h.1
set_option maxRecDepth 100000 in
set_option maxHeartbeats 4000000 in
theorem each_early2 (l : List LnD) (v : Value) (lax : Bool) (q : Int) (w : World) (hok : ∀ e, e ∈ l → LnOk e) (hP : LinesIn w v l) (hf : fitLs l = true) (hq : q < 0 ∨ 3 < q) :
    Calls Tryz.prog 7 #[v, .bool lax, .int .i64 q] w fun e w' => e = .returned (.bool true) ∧ Fr [] w w' := by
  have hlen := fits_len hf
  have hz := zzFits4_any l v w (by omega) hok hP
  rw [hf] at hz
  have hl := fun w1 (h : Fr [] w w1) => lLines_any l v w1 hlen hf (hP.fr h)
  have HZ := Lib.hid hz
  have HL := Lib.hid hl
  clear hz hP hok hf hl
  rcases hq with hq | hq
  · go_enter Tryz.func7, Tryz.ntmps7
    go_wp2_with (first
      | (go_at_call 20; refine HZ.out.mono ?_; rintro e w1 ⟨rfl, hf1⟩; have HF1 := Lib.hid hf1; clear hf1)
      | (go_at_call 21; refine (HL.out _ HF1.out).mono ?_; rintro e w2 ⟨⟨b, rfl, hb⟩, hf2⟩; have HF2 := Lib.hid (HF1.out.trans hf2); clear hf2 hb; cases b))
    all_goals
      go_ret
      exact ⟨rfl, HF2.out⟩
  · have hq0 : 0 ≤ q := by omega
    go_enter Tryz.func7, Tryz.ntmps7
    go_wp2_with (first
      | (go_at_call 20; refine HZ.out.mono ?_; rintro e w1 ⟨rfl, hf1⟩; have HF1 := Lib.hid hf1; clear hf1)
      | (go_at_call 21; refine (HL.out _ HF1.out).mono ?_; rintro e w2 ⟨⟨b, rfl, hb⟩, hf2⟩; have HF2 := Lib.hid (HF1.out.trans hf2); clear hf2 hb; cases b))
    all_goals
      go_ret
      exact ⟨rfl, HF2.out⟩
end Go.Proofs.YtaaogjhaokaggaaGreatDoor
