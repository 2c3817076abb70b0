/-
  PROVED HERE: the tied card of 'laws.FnValidKeyEncodes': for every int and every two strings the law returns true and its arguments read afterwards as before (an encoder writes a line with a measurement, a tag's key, a tag's value or a field's key without an error just if the text may be one; two texts that may be one may be one together).
  CONDITIONS: those of the given row alone: the listed package-level variables start as the program's text lays them (the card ties them; the pinned tables are held against the form's constants; the cut is a pruned copy of the project).
-/
import Derived.Test.YtaaogjhaokaggaaGreatDoorKeyW
import Derived.Test.YtaaogjhaokaggaaGreatDoorLaid
import Derived.Test.YtaaogjhaokaggaaGreatDoorCards
import Derived.Test.YtaaogjhaokaggaaGreatDoorTie
import Derived.ProofKit
import Derived.OpenShut
import Derived.LaidMore
import Derived.Lay
import Derived.SevenTiedAt
namespace Go.Proofs.YtaaogjhaokaggaaGreatDoor
open Go.ChangeShapes Go.WideShapes Go.ChangeAt Go.RowKit

theorem ownK : ownKnob Tryz.prog.godebug = none := by kernel_rfl

set_option maxRecDepth 100000 in
theorem key_lifted (os : Os) (started : os.Started) (H : Type) (enc : TypeId × Value → H) :
    ReturnsInHanded {} Tryz.checked os 10 .any (fun w args => (Rows.fnValidKeyEncodesSpec.pre enc Tryz.prog Tryz.f10 [] false w args ∧ laidMetH Tryz.prog Rows.fnValidKeyEncodesRow.laid w) ∧ sizedMet enc Tryz.prog Tryz.f10 (OpenSpec.ofChange Rows.fnValidKeyEncodesSpec) false w args)
      (Rows.fnValidKeyEncodesSpec.post enc Tryz.prog Tryz.f10 false true false false) := by
  refine returnsInHanded_of_change_and (C := Tryz.checked) (X := fun w _ => laidMetH Tryz.prog Rows.fnValidKeyEncodesRow.laid w) (fun _ _ _ hh h => h.of_heap hh) ownK started (by kernel_rfl) Tryz.func10
    (ChangeSpec.witness_shaped (enc := enc) (C := Tryz.checked) (os := os) (X := fun w _ => laidMetH Tryz.prog Rows.fnValidKeyEncodesRow.laid w) false (World.laidAll Tryz.prog os Rows.fnValidKeyEncodesRow.laid) #[.int .i64 0, .string ⟨#[]⟩, .string ⟨#[]⟩] 8 (World.laidAll_os _ _ _)
      (World.shaped_of_ZipB (by kernel_rfl) (by kernel_rfl)) (by kernel_rfl) (by kernel_rfl) (by kernel_rfl)
      (by rw [MakeChecks.laidMetH_plain _ _ _ (by kernel_rfl)]; exact laidMet_laidAll _ (by kernel_rfl) (by kernel_rfl))) ?_
  intro W base args ds gs before hval0 hW _ _ hL _
  have hval : ∀ (j : Nat) t v, Tryz.f10.params[j]? = some t → args[j]? = some v → Value.okWide Tryz.prog W .any base t v := hval0
  have hW' := hW
  obtain ⟨p, q, hA0, hV, rfl, _, _⟩ := hW
  have hA : DataW.TrodAll enc Tryz.prog W 0 (fun _ => true) true Tryz.f10.params.toList args.toList ds p := hA0
  rw [Tryz.params10] at hA hval
  obtain ⟨v0, v1, v2, d0, d1, d2, p0, p1, p2, rfl, rfl, rfl, h0, h1, h2⟩ := trodAll_three hA
  obtain ⟨rfl, rfl⟩ := trodVars_none hV
  obtain ⟨x, rfl, rfl, rfl, wx⟩ := open_int Tryz.underlying3 (hval 0 3 v0 rfl rfl) h0
  obtain ⟨s, rfl, rfl, rfl, ws⟩ := ChangeMaps.open_string Tryz.underlying9 (hval 1 9 v1 rfl rfl) h1
  obtain ⟨t, rfl, rfl, rfl, wt⟩ := ChangeMaps.open_string Tryz.underlying9 (hval 2 9 v2 rfl rfl) h2
  simp only [List.append_nil] at hW'
  rw [MakeChecks.laidMetH_plain _ _ _ (by kernel_rfl)] at hL
  obtain ⟨ea, hG⟩ := gl_of_laid hL (by simp [Rows.fnValidKeyEncodesRow]) (by simp [Rows.fnValidKeyEncodesRow]) (by simp [Rows.fnValidKeyEncodesRow]) (by simp [Rows.fnValidKeyEncodesRow]) (by simp [Rows.fnValidKeyEncodesRow]) (by simp [Rows.fnValidKeyEncodesRow])
  refine (key_walk validSaid x s t W hG).mono fun e W' ⟨he, hf⟩ => ?_
  subst he
  have hb : Below W.heap.size W W' := hf.below (Nat.le_refl _) (by simp)
  exact ⟨_, rfl, _, _, _, [], [], [], hW', trodAll_mk1 (shut_bool Tryz.underlying4 _), trodAll_mk3 (shut_int Tryz.underlying3 wx) (ChangeMaps.shut_string Tryz.underlying9 ws) (ChangeMaps.shut_string Tryz.underlying9 wt), rfl, hb.frame _, fun h => by cases h⟩

theorem key_holds : Rows.FnValidKeyEncodesSaid :=
  OpenClaim.holds_of_wide 10 Tryz.f10 rfl rfl rfl rfl rfl rfl rfl ⟨rfl, rfl, rfl, rfl, rfl⟩ rfl rfl rfl rfl rfl (by kernel_rfl) Tryz.func10 (by kernel_rfl)
    (of_decide_eq_true (by kernel_rfl)) (by unfold Func.isWrapper; first | (rw [if_pos (by decide +kernel)]; kernel_rfl) | (rw [if_neg (by decide +kernel)]; exact ⟨rfl, rfl⟩))
    (fun os started H enc _ => key_lifted os started H enc)
theorem fnValidKeyEncodes_holds : Rows.FnValidKeyEncodesCardSaid :=
  Claim7.holds_tied_plain_at .later [] [.data, .data, .data, .data, .data, .sentinel, .pinned, .pinned, .pinned, .pinned, .pinned, .pinned, .pinned, .pinned] true (true, "dfe5c0e3f43fbf57086c48fda6ae417ac652150c029ce6579978b0021020a072") true key_holds (fun _ h => by cases h) (by kernel_rfl) (fun _ h => by cases h) fnValidKeyEncodes_row_tie rfl ⟨rfl, rfl⟩ (by kernel_rfl) rfl
    (fun f fn hf hfn => by
      obtain rfl : f = 10 := Option.some.inj ((show Tryz.prog.funcNamed "pub-teleprinter/laws.FnValidKeyEncodes" = some 10 by kernel_rfl).symm.trans hf) |>.symm
      obtain rfl : fn = Tryz.f10 := (Option.some.inj (Tryz.func10.symm.trans hfn)).symm
      exact ⟨by kernel_rfl, fun j t ht => by
        rw [Tryz.params10] at ht
        have hm : t ∈ [3, 9, 9] := by simpa using Array.mem_of_getElem? ht
        have hall : ([3, 9, 9].all fun u => !Tryz.prog.wantsStandIn u) = true := by kernel_rfl
        exact (show Tryz.prog.wantsStandIn t = false by simpa using List.all_eq_true.1 hall t hm)⟩)
    (by kernel_rfl)
#print axioms fnValidKeyEncodes_holds
end Go.Proofs.YtaaogjhaokaggaaGreatDoor
