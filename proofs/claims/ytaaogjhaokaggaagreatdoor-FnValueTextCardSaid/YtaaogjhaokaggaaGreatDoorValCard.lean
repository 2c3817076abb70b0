/-
  PROVED HERE: the tied card of 'laws.FnValueText': for every string and every value (impl.Value) the law returns true and its arguments read afterwards as before (a value that can be made is written behind what there is as a line has it).
  CONDITIONS: those of the given row alone: the listed package-level variables start as the program's text lays them (the card ties them; the pinned tables are held against the form's constants; the cut is a pruned copy of the project).
-/
import Derived.Test.YtaaogjhaokaggaaGreatDoorSpF
import Derived.Test.YtaaogjhaokaggaaGreatDoorOpenV
import Derived.Test.YtaaogjhaokaggaaGreatDoorVshelf
import Derived.Test.YtaaogjhaokaggaaGreatDoorLaid
import Derived.Test.YtaaogjhaokaggaaGreatDoorCards
import Derived.Test.YtaaogjhaokaggaaGreatDoorTie
import Derived.ProofKit
import Derived.Carry
import Derived.OpenShut
import Derived.LaidMore
import Derived.Lay
import Derived.SevenTiedAt
namespace Go.Proofs.YtaaogjhaokaggaaGreatDoor
open Go.ChangeShapes Go.WideShapes Go.ChangeAt Go.RowKit

theorem ownK : ownKnob Tryz.prog.godebug = none := by kernel_rfl

set_option maxRecDepth 100000 in
theorem vt_lifted (os : Os) (started : os.Started) (H : Type) (enc : TypeId × Value → H) :
    ReturnsInHanded {} Tryz.checked os 4 .any (fun w args => (Rows.fnValueTextSpec.pre enc Tryz.prog Tryz.f4 [] false w args ∧ laidMetH Tryz.prog Rows.fnValueTextRow.laid w) ∧ sizedMet enc Tryz.prog Tryz.f4 (OpenSpec.ofChange Rows.fnValueTextSpec) false w args)
      (Rows.fnValueTextSpec.post enc Tryz.prog Tryz.f4 false true false false) := by
  refine returnsInHanded_of_change_and (C := Tryz.checked) (X := fun w _ => laidMetH Tryz.prog Rows.fnValueTextRow.laid w) (fun _ _ _ hh h => h.of_heap hh) ownK started (by kernel_rfl) Tryz.func4
    (ChangeSpec.witness_shaped (enc := enc) (C := Tryz.checked) (os := os) (X := fun w _ => laidMetH Tryz.prog Rows.fnValueTextRow.laid w) false (World.laidAll Tryz.prog os Rows.fnValueTextRow.laid) #[.string ⟨#[]⟩, .agg #[.int .i64 0, .string ⟨#[]⟩, .int .i64 0, .int .u64 0, .float .f64 0, .bool false]] 8 (World.laidAll_os _ _ _)
      (World.shaped_of_ZipB (by kernel_rfl) (by kernel_rfl)) (by kernel_rfl) (by kernel_rfl) (by kernel_rfl)
      (by rw [MakeChecks.laidMetH_plain _ _ _ (by kernel_rfl)]; exact laidMet_laidAll _ (by kernel_rfl) (by kernel_rfl))) ?_
  intro W base args ds gs before hval0 hW _ _ hL _
  have hval : ∀ (j : Nat) t v, Tryz.f4.params[j]? = some t → args[j]? = some v → Value.okWide Tryz.prog W .any base t v := hval0
  have hW' := hW
  obtain ⟨p, q, hA0, hV, rfl, _, _⟩ := hW
  have hA : DataW.TrodAll enc Tryz.prog W 0 (fun _ => true) true Tryz.f4.params.toList args.toList ds p := hA0
  rw [Tryz.params4] at hA hval
  obtain ⟨v0, v1, d0, d1, p0, p1, rfl, rfl, rfl, h0, h1⟩ := trodAll_two hA
  obtain ⟨rfl, rfl⟩ := trodVars_none hV
  obtain ⟨t, rfl, rfl, rfl, wt⟩ := ChangeMaps.open_string Tryz.underlying9 (hval 0 9 v0 rfl rfl) h0
  obtain ⟨cs, rfl, hcs⟩ := okWide_struct Tryz.underlying25 (hval 1 25 v1 rfl rfl)
  have h1k := h1
  obtain ⟨fuel, h1'⟩ := h1
  obtain ⟨d, hd, wk, ws, wn, wu, wf, hz⟩ := open_value h1'
  have hz' : p1 = [] := hz
  have hd' : cs.toList = d.cells.toList := hd
  obtain rfl := Array.toList_inj.1 hd'
  subst hz'
  simp only [List.append_nil] at hW'
  rw [MakeChecks.laidMetH_plain _ _ _ (by kernel_rfl)] at hL
  have hG := gv_of_laid hL (by simp [Rows.fnValueTextRow]) (by simp [Rows.fnValueTextRow]) (by simp [Rows.fnValueTextRow]) (by simp [Rows.fnValueTextRow]) (by simp [Rows.fnValueTextRow]) ⟨0, 0, none⟩
  have bn := bounds_i64 wn
  have bu := bounds_u64 wu
  have bf : d.f < 18446744073709551616 := by
    simp [Lit.wf] at wf
    exact wf
  refine (valueText_walk validSaid t d bn.1 bn.2 (by omega) bf W hG).mono fun e W' ⟨he, hf⟩ => ?_
  subst he
  have hb : Below W.heap.size W W' := hf.below (Nat.le_refl _) (by simp)
  exact ⟨_, rfl, _, _, _, [], [], [], hW', trodAll_mk1 (shut_bool Tryz.underlying4 _), trodAll_mk2 (ChangeMaps.shut_string Tryz.underlying9 wt) (Below.trod laidOutT (by kernel_rfl) (of_decide_eq_true (by kernel_rfl)) h1k hb (fun x hx => by cases hx)), rfl, hb.frame _, fun h => by cases h⟩

theorem vt_holds : Rows.FnValueTextSaid :=
  OpenClaim.holds_of_wide 4 Tryz.f4 rfl rfl rfl rfl rfl rfl rfl ⟨rfl, rfl, rfl, rfl, rfl⟩ rfl rfl rfl rfl rfl (by kernel_rfl) Tryz.func4 (by kernel_rfl)
    (of_decide_eq_true (by kernel_rfl)) (by unfold Func.isWrapper; first | (rw [if_pos (by decide +kernel)]; kernel_rfl) | (rw [if_neg (by decide +kernel)]; exact ⟨rfl, rfl⟩))
    (fun os started H enc _ => vt_lifted os started H enc)
theorem fnValueText_holds : Rows.FnValueTextCardSaid :=
  Claim7.holds_tied_plain_at .later [] [.data, .data, .data, .data, .data, .pinned, .pinned, .pinned, .pinned, .pinned, .pinned, .pinned, .pinned] true (true, "dfe5c0e3f43fbf57086c48fda6ae417ac652150c029ce6579978b0021020a072") true vt_holds (fun _ h => by cases h) (by kernel_rfl) (fun _ h => by cases h) fnValueText_row_tie rfl ⟨rfl, rfl⟩ (by kernel_rfl) rfl
    (fun f fn hf hfn => by
      obtain rfl : f = 4 := Option.some.inj ((show Tryz.prog.funcNamed "pub-teleprinter/laws.FnValueText" = some 4 by kernel_rfl).symm.trans hf) |>.symm
      obtain rfl : fn = Tryz.f4 := (Option.some.inj (Tryz.func4.symm.trans hfn)).symm
      exact ⟨by kernel_rfl, fun j t ht => by
        rw [Tryz.params4] at ht
        have hm : t ∈ [9, 25] := by simpa using Array.mem_of_getElem? ht
        have hall : ([9, 25].all fun u => !Tryz.prog.wantsStandIn u) = true := by kernel_rfl
        exact (show Tryz.prog.wantsStandIn t = false by simpa using List.all_eq_true.1 hall t hm)⟩)
    (by kernel_rfl)
#print axioms fnValueText_holds
end Go.Proofs.YtaaogjhaokaggaaGreatDoor
