/- PROVED HERE: a part of round r2's proofs (text RdT): lemmas and walks that later texts use. CONDITIONS: those written ahead of each theorem. -/
import Derived.Test.YtpkkgngpjeoffaaGreatDoorChkT
import Derived.Test.YtpkkgngpjeoffaaGreatDoorHdrT
import Derived.LaidEql
namespace Go.Proofs.YtpkkgngpjeoffaaGreatDoor
open Go.RowKit

theorem zzis_nil (x : Value) (w : World) : Calls Tryz.prog 35 #[.nilIface, x] w fun e w' => e = .returned (.bool false) ∧ w' = w := by
  go_enter Tryz.func35, Tryz.ntmps35
  go_wp2_with fail
  refine wp_loop_rounds 1 ?_
  rw [rounds_succ]
  go_wp2_with fail
  go_ret
  exact ⟨rfl, rfl⟩
set_option maxRecDepth 100000 in
theorem zzis_eof {B : Nat} {ea : Addr} (w : World) (_hG : Gv B ea w) : Calls Tryz.prog 35 #[.iface 199 (.pointer (some ea)), .iface 199 (.pointer (some ea))] w fun e w' => e = .returned (.bool true) ∧ w' = w := by
  obtain ⟨i, hi, hc⟩ : ∃ i, Tryz.prog.info? 199 = some i ∧ i.comparable = true := by
    have h : (Tryz.prog.info? 199).map (·.comparable) = some true := by kernel_rfl
    cases hi : Tryz.prog.info? 199 with
    | none => rw [hi] at h; cases h
    | some i => rw [hi] at h; exact ⟨i, rfl, by simpa using h⟩
  obtain ⟨j, hj⟩ : ∃ j, Tryz.prog.info? 201 = some j := by
    have h : (Tryz.prog.info? 201).isSome = true := by kernel_rfl
    exact Option.isSome_iff_exists.1 h
  have heq := fun W : World => run_eql_iface_ptr_same W ea Tryz.underlying48 Tryz.underlying199 hi hc hj
  go_enter Tryz.func35, Tryz.ntmps35
  go_wp2_with fail
  refine wp_loop_rounds 1 ?_
  rw [rounds_succ]
  go_wp2_with fail
  go_ret
  exact ⟨rfl, rfl⟩
/-- A slice of 1024 bytes at the head of a row. -/
def ExpQ (w : World) (v : Value) (e : Ending) (w' : World) : Prop := ∃ g cap, e = .returned (.slice (some ⟨g, 0, none⟩) 1024 cap) ∧ Fr [] w w' ∧ Own w' 5 (.slice (some ⟨g, 0, none⟩) 0 cap) [] ∧ 1024 ≤ cap ∧ (v.ownBlock = some g ∨ w.heap.size ≤ g)
set_option maxRecDepth 100000 in
theorem expand_any (v : Value) (l : List UInt8) (w : World) (h : Own w 5 v l) : Calls Tryz.prog 72 #[v, .int .i64 1024, .bool false] w (ExpQ w v) := by
  obtain ⟨a, c, hv⟩ := own_shape h
  have HO := Lib.hid h
  by_cases hc : c < 1024
  · have i1 : (c : Int) < 1024 := by omega
    have HV := Lib.hid hv
    subst hv
    clear h
    go_enter Tryz.func72, Tryz.ntmps72
    go_wp2_with (at_make; refine wpMake _ rfl (.tmp 19) (.tmp 19) rfl _ _ 1024 1024 rfl rfl rfl rfl (by decide) (by decide) ?_; intro w1 hr1 hf1; have HR1 := Lib.hid hr1; have HF1 := Lib.hid hf1; clear hr1 hf1)
    go_ret
    exact ⟨_, _, rfl, HF1.out, .inr ⟨_, _, rfl, _, _, HR1.out, fun j _ h => by simp at h, by rw [zbytes_size]; exact Nat.le_refl _, by simp, by decide, by simp [bvs]⟩, by decide, .inr (Nat.le_refl _)⟩
  · have i1 : ¬ (c : Int) < 1024 := by omega
    have i2 : (1024 : Int) ≤ (c : Int) := by omega
    have hrow : ∃ g, a = some ⟨g, 0, none⟩ := by
      subst hv
      rcases h with ⟨e, _⟩ | ⟨g, cap, e, _⟩
      · simp at e; omega
      · simp at e; exact ⟨_, e.1⟩
    obtain ⟨g, rfl⟩ := hrow
    subst hv
    clear h
    go_enter Tryz.func72, Tryz.ntmps72
    go_wp2_with fail
    go_ret
    exact ⟨g, c, rfl, Fr.refl _ _, own_cut HO.out, by omega, .inl rfl⟩
theorem expand34_any (v : Value) (l : List UInt8) (w : World) (h : Own w 5 v l) : Calls Tryz.prog 34 #[v, .int .i64 1024] w (ExpQ w v) := by
  have H := Lib.hid (expand_any v l w h)
  obtain ⟨a, c, rfl⟩ := own_shape h
  clear h
  go_enter Tryz.func34, Tryz.ntmps34
  go_wp2_with (go_at_call 72; refine H.out.mono ?_; rintro e w1 ⟨g, cap, rfl, hf, ho, hc, hg⟩)
  go_ret
  exact ⟨g, cap, rfl, hf, ho, hc, hg⟩
end Go.Proofs.YtpkkgngpjeoffaaGreatDoor
