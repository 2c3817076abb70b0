/-
  PROVED HERE: the tied card of 'laws.FnValueEqualText': for all arguments that can be read the law returns true and its arguments read afterwards as before (two values that can be made are equal just if they are written the same, or both are the float 0).
  CONDITIONS: those of the given row alone: the listed package-level variables start as the program's text lays them (the card ties them; the pinned tables are held against the form's constants; the cut is a pruned copy of the project).
-/
import Derived.Test.YtaaogjhaokaggaaGreatDoorEqZ
import Derived.Test.YtaaogjhaokaggaaGreatDoorOpenL
import Derived.Test.YtaaogjhaokaggaaGreatDoorEqlCardJ
import Derived.Test.YtaaogjhaokaggaaGreatDoorLaid
import Derived.Test.YtaaogjhaokaggaaGreatDoorCards
import Derived.Test.YtaaogjhaokaggaaGreatDoorTie
import Derived.ProofKit
import Derived.Carry
import Derived.OpenShut
import Derived.LaidMore
import Derived.Lay
import Derived.SevenTiedAt
namespace Go.Proofs.YtaaogjhaokaggaaGreatDoor
open Go.ChangeShapes Go.WideShapes Go.ChangeAt Go.RowKit

theorem ownC : ownKnob Tryz.prog.godebug = none := by kernel_rfl

set_option maxRecDepth 100000 in
theorem card_lifted (os : Os) (started : os.Started) (H : Type) (enc : TypeId × Value → H) :
    ReturnsInHanded {} Tryz.checked os 3 .any (fun w args => (Rows.fnValueEqualTextSpec.pre enc Tryz.prog Tryz.f3 [] false w args ∧ laidMetH Tryz.prog Rows.fnValueEqualTextRow.laid w) ∧ sizedMet enc Tryz.prog Tryz.f3 (OpenSpec.ofChange Rows.fnValueEqualTextSpec) false w args)
      (Rows.fnValueEqualTextSpec.post enc Tryz.prog Tryz.f3 false true false false) := by
  refine returnsInHanded_of_change_and (C := Tryz.checked) (X := fun w _ => laidMetH Tryz.prog Rows.fnValueEqualTextRow.laid w) (fun _ _ _ hh h => h.of_heap hh) ownC started (by kernel_rfl) Tryz.func3
    (ChangeSpec.witness_shaped (enc := enc) (C := Tryz.checked) (os := os) (X := fun w _ => laidMetH Tryz.prog Rows.fnValueEqualTextRow.laid w) false (World.laidAll Tryz.prog os Rows.fnValueEqualTextRow.laid) #[.agg #[.int .i64 0, .string ⟨#[]⟩, .int .i64 0, .int .u64 0, .float .f64 0, .bool false], .agg #[.int .i64 0, .string ⟨#[]⟩, .int .i64 0, .int .u64 0, .float .f64 0, .bool false]] 8 (World.laidAll_os _ _ _)
      (World.shaped_of_ZipB (by kernel_rfl) (by kernel_rfl)) (by kernel_rfl) (by kernel_rfl) (by kernel_rfl)
      (by rw [MakeChecks.laidMetH_plain _ _ _ (by kernel_rfl)]; exact laidMet_laidAll _ (by kernel_rfl) (by kernel_rfl))) ?_
  intro W base args ds gs before hval0 hW _ _ hL _
  have hval : ∀ (j : Nat) t v, Tryz.f3.params[j]? = some t → args[j]? = some v → Value.okWide Tryz.prog W .any base t v := hval0
  have hW' := hW
  obtain ⟨p, q, hA0, hV, rfl, _, _⟩ := hW
  have hA : DataW.TrodAll enc Tryz.prog W 0 (fun _ => true) true Tryz.f3.params.toList args.toList ds p := hA0
  rw [Tryz.params3] at hA hval
  obtain ⟨v0, v1, d0, d1, p0, p1, rfl, rfl, rfl, h0, h1⟩ := trodAll_two hA
  obtain ⟨rfl, rfl⟩ := trodVars_none hV
  obtain ⟨cs0, rfl, hcs0⟩ := okWide_struct Tryz.underlying25 (hval 0 25 v0 rfl rfl)
  have k0 := h0
  obtain ⟨fuel0, g0⟩ := h0
  obtain ⟨x0, hd0, wk0, ws0, wn0, wu0, wf0, hz0⟩ := open_value g0
  have hz0' : p0 = [] := hz0
  have hd0' : cs0.toList = x0.cells.toList := hd0
  obtain rfl := Array.toList_inj.1 hd0'
  subst hz0'
  obtain ⟨cs1, rfl, hcs1⟩ := okWide_struct Tryz.underlying25 (hval 1 25 v1 rfl rfl)
  have k1 := h1
  obtain ⟨fuel1, g1⟩ := h1
  obtain ⟨x1, hd1, wk1, ws1, wn1, wu1, wf1, hz1⟩ := open_value g1
  have hz1' : p1 = [] := hz1
  have hd1' : cs1.toList = x1.cells.toList := hd1
  obtain rfl := Array.toList_inj.1 hd1'
  subst hz1'
  simp only [List.append_nil] at hW'
  rw [MakeChecks.laidMetH_plain _ _ _ (by kernel_rfl)] at hL
  have hG := gv_of_laid hL (by simp [Rows.fnValueEqualTextRow]) (by simp [Rows.fnValueEqualTextRow]) (by simp [Rows.fnValueEqualTextRow]) (by simp [Rows.fnValueEqualTextRow]) (by simp [Rows.fnValueEqualTextRow]) ⟨0, 0, none⟩
  refine (equalText_walk validSaid x0 x1 (bounds_i64 wn0).1 (bounds_i64 wn0).2 (by have := bounds_u64 wu0; omega) (by simp [Lit.wf] at wf0; exact wf0) (bounds_i64 wn1).1 (bounds_i64 wn1).2 (by have := bounds_u64 wu1; omega) (by simp [Lit.wf] at wf1; exact wf1) W hG).mono fun e W' ⟨he, hf⟩ => ?_
  subst he
  have hb : Below W.heap.size W W' := hf.below (Nat.le_refl _) (by simp)
  exact ⟨_, rfl, _, _, _, [], _, [], hW', trodAll_mk1 (shut_bool Tryz.underlying4 _), trodAll_mk2 (Below.trod laidOutT (by kernel_rfl) (of_decide_eq_true (by kernel_rfl)) k0 hb (fun x hx => by cases hx)) (Below.trod laidOutT (by kernel_rfl) (of_decide_eq_true (by kernel_rfl)) k1 hb (fun x hx => by cases hx)), rfl, hb.frame _, fun h => by cases h⟩

theorem card_holds : Rows.FnValueEqualTextSaid :=
  OpenClaim.holds_of_wide 3 Tryz.f3 rfl rfl rfl rfl rfl rfl rfl ⟨rfl, rfl, rfl, rfl, rfl⟩ rfl rfl rfl rfl rfl (by kernel_rfl) Tryz.func3 closed3
    (of_decide_eq_true (by kernel_rfl)) (by unfold Func.isWrapper; first | (rw [if_pos (by decide +kernel)]; kernel_rfl) | (rw [if_neg (by decide +kernel)]; exact ⟨rfl, rfl⟩))
    (fun os started H enc _ => card_lifted os started H enc)
theorem fnValueEqualText_holds : Rows.FnValueEqualTextCardSaid :=
  Claim7.holds_tied_plain_at .later [] [.data, .data, .data, .data, .data, .pinned, .pinned, .pinned, .pinned, .pinned, .pinned, .pinned, .pinned] true (true, "dfe5c0e3f43fbf57086c48fda6ae417ac652150c029ce6579978b0021020a072") true card_holds (fun _ h => by cases h) (by kernel_rfl) (fun _ h => by cases h) fnValueEqualText_row_tie rfl ⟨rfl, rfl⟩ (by kernel_rfl) rfl
    (fun f fn hf hfn => by
      obtain rfl : f = 3 := Option.some.inj ((show Tryz.prog.funcNamed "pub-teleprinter/laws.FnValueEqualText" = some 3 by kernel_rfl).symm.trans hf) |>.symm
      obtain rfl : fn = Tryz.f3 := (Option.some.inj (Tryz.func3.symm.trans hfn)).symm
      exact ⟨by kernel_rfl, fun j t ht => by
        rw [Tryz.params3] at ht
        have hm : t ∈ [25, 25] := by simpa using Array.mem_of_getElem? ht
        have hall : ([25, 25].all fun u => !Tryz.prog.wantsStandIn u) = true := by kernel_rfl
        exact (show Tryz.prog.wantsStandIn t = false by simpa using List.all_eq_true.1 hall t hm)⟩)
    (by kernel_rfl)
#print axioms fnValueEqualText_holds
end Go.Proofs.YtaaogjhaokaggaaGreatDoor
