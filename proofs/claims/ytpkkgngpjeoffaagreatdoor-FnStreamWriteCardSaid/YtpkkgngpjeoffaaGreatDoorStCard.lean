/-
  PROVED HERE: the tied card of 'laws.FnStreamWrite': for all arguments that can be read the law returns true and its arguments read afterwards as before.
  CONDITIONS: those of the given row alone: the listed package-level variables start as the program's text lays them (the card ties them; the pinned tables are held against the form's constants; the cut is a pruned copy of the project).
-/
import Derived.Test.YtpkkgngpjeoffaaGreatDoorStK
import Derived.Test.YtpkkgngpjeoffaaGreatDoorStCardJ
import Derived.Test.YtpkkgngpjeoffaaGreatDoorLaid
import Derived.Test.YtpkkgngpjeoffaaGreatDoorOpenS
import Derived.Test.YtpkkgngpjeoffaaGreatDoorCards
import Derived.Test.YtpkkgngpjeoffaaGreatDoorTie
import Derived.ProofKit
import Derived.Carry
import Derived.OpenShut
import Derived.LaidMore
import Derived.Lay
import Derived.SevenTiedAt
namespace Go.Proofs.YtpkkgngpjeoffaaGreatDoor
open Go.ChangeShapes Go.WideShapes Go.ChangeAt Go.RowKit

theorem ownC : ownKnob Tryz.prog.godebug = none := by kernel_rfl

set_option maxRecDepth 100000 in
theorem card_lifted (os : Os) (started : os.Started) (H : Type) (enc : TypeId × Value → H) :
    ReturnsInHanded {} Tryz.checked os 3 .any (fun w args => (Rows.fnStreamWriteSpec.pre enc Tryz.prog Tryz.f3 [] false w args ∧ laidMetH Tryz.prog Rows.fnStreamWriteRow.laid w) ∧ sizedMet enc Tryz.prog Tryz.f3 (OpenSpec.ofChange Rows.fnStreamWriteSpec) false w args)
      (Rows.fnStreamWriteSpec.post enc Tryz.prog Tryz.f3 false true false false) := by
  refine returnsInHanded_of_change_and (C := Tryz.checked) (X := fun w _ => laidMetH Tryz.prog Rows.fnStreamWriteRow.laid w) (fun _ _ _ hh h => h.of_heap hh) ownC started (by kernel_rfl) Tryz.func3
    (ChangeSpec.witness_shaped (enc := enc) (C := Tryz.checked) (os := os) (X := fun w _ => laidMetH Tryz.prog Rows.fnStreamWriteRow.laid w) false (World.laidAll Tryz.prog os Rows.fnStreamWriteRow.laid) #[.string ⟨#[]⟩, .slice none 0 0] 8 (World.laidAll_os _ _ _)
      (World.shaped_of_ZipB (by kernel_rfl) (by kernel_rfl)) (by kernel_rfl) (by kernel_rfl) (by kernel_rfl)
      (by rw [MakeChecks.laidMetH_plain _ _ _ (by kernel_rfl)]; exact laidMet_laidAll _ (by kernel_rfl) (by kernel_rfl))) ?_
  intro W base args ds gs before hval0 hW _ _ hL _
  have hval : ∀ (j : Nat) t v, Tryz.f3.params[j]? = some t → args[j]? = some v → Value.okWide Tryz.prog W .any base t v := hval0
  have hW' := hW
  obtain ⟨p, q, hA0, hV, rfl, _, _⟩ := hW
  have hA : DataW.TrodAll enc Tryz.prog W 0 (fun _ => true) true Tryz.f3.params.toList args.toList ds p := hA0
  rw [Tryz.params3] at hA hval
  obtain ⟨v0, v1, d0, d1, p0, p1, rfl, rfl, rfl, h0, h1⟩ := trodAll_two hA
  obtain ⟨rfl, rfl⟩ := trodVars_none hV
  obtain ⟨x0, rfl, rfl, rfl, w0⟩ := ChangeMaps.open_string Tryz.underlying9 (hval 0 9 v0 rfl rfl) h0
  obtain ⟨ta1, tl1, tc1, rfl⟩ := okWide_slice Tryz.underlying22 (hval 1 22 v1 rfl rfl)
  have k1 := h1
  obtain ⟨fuel1, g1⟩ := h1
  obtain ⟨z1, x1, c1, hP1⟩ := open_sizes g1
  obtain rfl : z1 = Value.slice ta1 tl1 tc1 := (List.cons.inj (show [Value.slice ta1 tl1 tc1] = [z1] from c1)).1.symm
  simp only [List.append_nil, List.nil_append] at hW'
  rw [MakeChecks.laidMetH_plain _ _ _ (by kernel_rfl)] at hL
  obtain ⟨ea, hG⟩ := gv_of_laid hL (by simp [Rows.fnStreamWriteRow]) (by simp [Rows.fnStreamWriteRow]) (by simp [Rows.fnStreamWriteRow])
  refine (stream_walk x0 (Value.slice ta1 tl1 tc1) x1 W hG hP1).mono fun e W' ⟨he, hf⟩ => ?_
  subst he
  have hb : Below W.heap.size W W' := hf.below (Nat.le_refl _) (by simp)
  exact ⟨_, rfl, _, _, _, [], _, [], hW', trodAll_mk1 (shut_bool Tryz.underlying4 _), trodAll_mk2 (ChangeMaps.shut_string Tryz.underlying9 w0) (Below.trod laidOutT (by kernel_rfl) (of_decide_eq_true (by kernel_rfl)) k1 hb (fun x hx => by simpa using hW'.lt x (by simp [hx]))), rfl, hb.frame _, fun h => by cases h⟩

theorem card_holds : Rows.FnStreamWriteSaid :=
  OpenClaim.holds_of_wide 3 Tryz.f3 rfl rfl rfl rfl rfl rfl rfl ⟨rfl, rfl, rfl, rfl, rfl⟩ rfl rfl rfl rfl rfl (by kernel_rfl) Tryz.func3 closed3
    (of_decide_eq_true (by kernel_rfl)) (by unfold Func.isWrapper; first | (rw [if_pos (by decide +kernel)]; kernel_rfl) | (rw [if_neg (by decide +kernel)]; exact ⟨rfl, rfl⟩))
    (fun os started H enc _ => card_lifted os started H enc)
theorem fnStreamWrite_holds : Rows.FnStreamWriteCardSaid :=
  Claim7.holds_tied_plain_at .later [] [.data, .data, .widerDeep, .widerDeep, .data, .data, .data, .data, .data, .sentinel, .sentinel, .sentinel, .pinned, .pinned] true (true, "99dc93ef578a16b8b0acd5db8b4b94e718a5d506aa5ff2604b2cf741b65c5509") true card_holds (fun _ h => by cases h) (by kernel_rfl) (fun _ h => by cases h) fnStreamWrite_row_tie rfl ⟨rfl, rfl⟩ (by kernel_rfl) rfl
    (fun f fn hf hfn => by
      obtain rfl : f = 3 := Option.some.inj ((show Tryz.prog.funcNamed "pub-teleprinter/laws.FnStreamWrite" = some 3 by kernel_rfl).symm.trans hf) |>.symm
      obtain rfl : fn = Tryz.f3 := (Option.some.inj (Tryz.func3.symm.trans hfn)).symm
      exact ⟨by kernel_rfl, fun j t ht => by
        rw [Tryz.params3] at ht
        have hm : t ∈ [9, 22] := by simpa using Array.mem_of_getElem? ht
        have hall : ([9, 22].all fun u => !Tryz.prog.wantsStandIn u) = true := by kernel_rfl
        exact (show Tryz.prog.wantsStandIn t = false by simpa using List.all_eq_true.1 hall t hm)⟩)
    (by kernel_rfl)
#print axioms fnStreamWrite_holds
end Go.Proofs.YtpkkgngpjeoffaaGreatDoor
