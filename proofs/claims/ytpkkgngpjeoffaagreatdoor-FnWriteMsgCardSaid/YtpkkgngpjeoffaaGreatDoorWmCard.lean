/-
  PROVED HERE: the tied card of 'laws.FnWriteMsg': for all arguments that can be read the law returns true and its arguments read afterwards as before.
  CONDITIONS: those of the given row alone: the listed package-level variables start as the program's text lays them (the card ties them; the pinned tables are held against the form's constants; the cut is a pruned copy of the project).
-/
import Derived.Test.YtpkkgngpjeoffaaGreatDoorWmW
import Derived.Test.YtpkkgngpjeoffaaGreatDoorWmCardJ
import Derived.Test.YtpkkgngpjeoffaaGreatDoorLaidP
import Derived.Test.YtpkkgngpjeoffaaGreatDoorCards
import Derived.Test.YtpkkgngpjeoffaaGreatDoorTie
import Derived.ProofKit
import Derived.Carry
import Derived.OpenShut
import Derived.LaidMore
import Derived.Lay
import Derived.SevenTiedAt
import Derived.Laws.Cover2
namespace Go.Proofs.YtpkkgngpjeoffaaGreatDoor
open Go.ChangeShapes Go.WideShapes Go.ChangeAt Go.RowKit

theorem ownC : ownKnob Tryz.prog.godebug = none := by kernel_rfl

set_option maxRecDepth 100000 in
theorem card_lifted (os : Os) (started : os.Started) (H : Type) (enc : TypeId × Value → H) :
    ReturnsInHanded {} Tryz.checked os 5 .any (fun w args => (Rows.fnWriteMsgSpec.pre enc Tryz.prog Tryz.f5 [] false w args ∧ laidMetH Tryz.prog Rows.fnWriteMsgRow.laid w) ∧ sizedMet enc Tryz.prog Tryz.f5 (OpenSpec.ofChange Rows.fnWriteMsgSpec) false w args)
      (Rows.fnWriteMsgSpec.post enc Tryz.prog Tryz.f5 false true false false) := by
  refine returnsInHanded_of_change_and (C := Tryz.checked) (X := fun w _ => laidMetH Tryz.prog Rows.fnWriteMsgRow.laid w) (fun _ _ _ hh h => h.of_heap hh) ownC started (by kernel_rfl) Tryz.func5
    (ChangeSpec.witness_shaped (enc := enc) (C := Tryz.checked) (os := os) (X := fun w _ => laidMetH Tryz.prog Rows.fnWriteMsgRow.laid w) false (World.laidAll Tryz.prog os Rows.fnWriteMsgRow.laid) #[.string ⟨#[]⟩, .int .i64 0, .float .f64 0, .bool false] 8 (World.laidAll_os _ _ _)
      (World.shaped_of_ZipB (by kernel_rfl) (by kernel_rfl)) (by kernel_rfl) (by kernel_rfl) (by kernel_rfl)
      (by rw [MakeChecks.laidMetH_plain _ _ _ (by kernel_rfl)]; exact laidMet_laidAll _ (by kernel_rfl) (by kernel_rfl))) ?_
  intro W base args ds gs before hval0 hW _ _ hL _
  have hval : ∀ (j : Nat) t v, Tryz.f5.params[j]? = some t → args[j]? = some v → Value.okWide Tryz.prog W .any base t v := hval0
  have hW' := hW
  obtain ⟨p, q, hA0, hV, rfl, _, _⟩ := hW
  have hA : DataW.TrodAll enc Tryz.prog W 0 (fun _ => true) true Tryz.f5.params.toList args.toList ds p := hA0
  rw [Tryz.params5] at hA hval
  obtain ⟨v0, v1, v2, v3, d0, d1, d2, d3, p0, p1, p2, p3, rfl, rfl, rfl, h0, h1, h2, h3⟩ := trodAll_four hA
  obtain ⟨rfl, rfl⟩ := trodVars_none hV
  obtain ⟨x0, rfl, rfl, rfl, w0⟩ := ChangeMaps.open_string Tryz.underlying9 (hval 0 9 v0 rfl rfl) h0
  obtain ⟨x1, rfl, rfl, rfl, w1⟩ := open_int Tryz.underlying2 (hval 1 2 v1 rfl rfl) h1
  have b1 : -9223372036854775808 ≤ x1 ∧ x1 ≤ 9223372036854775807 := by simpa [Lit.wf, IntKind.min, IntKind.max, IntKind.signed, IntKind.bits] using w1
  obtain ⟨x2, rfl, rfl, rfl, w2⟩ := open_float Tryz.underlying30 (hval 2 30 v2 rfl rfl) h2
  obtain ⟨x3, rfl, rfl, rfl⟩ := open_bool Tryz.underlying4 (hval 3 4 v3 rfl rfl) h3
  simp only [List.append_nil] at hW'
  rw [MakeChecks.laidMetH_plain _ _ _ (by kernel_rfl)] at hL
  obtain ⟨ea, hG⟩ := gp_of_laid hL (by simp [Rows.fnWriteMsgRow]) (by simp [Rows.fnWriteMsgRow]) (by simp [Rows.fnWriteMsgRow]) (by simp [Rows.fnWriteMsgRow])
  refine (wm_walk x0 x1 b1.1 b1.2 x2 (by simp [Lit.wf] at w2; exact w2) x3 W hG).mono fun e W' ⟨he, hf⟩ => ?_
  subst he
  have hb : Below W.heap.size W W' := hf.below (Nat.le_refl _) (by simp)
  exact ⟨_, rfl, _, _, _, [], _, [], hW', trodAll_mk1 (shut_bool Tryz.underlying4 _), trodAll_mk4 (ChangeMaps.shut_string Tryz.underlying9 w0) (shut_int Tryz.underlying2 w1) (shut_float Tryz.underlying30 w2) (shut_bool Tryz.underlying4 _), rfl, hb.frame _, fun h => by cases h⟩

theorem card_holds : Rows.FnWriteMsgSaid :=
  OpenClaim.holds_of_wide 5 Tryz.f5 rfl rfl rfl rfl rfl rfl rfl ⟨rfl, rfl, rfl, rfl, rfl⟩ rfl rfl rfl rfl rfl (by kernel_rfl) Tryz.func5 closed5
    (of_decide_eq_true (by kernel_rfl)) (by unfold Func.isWrapper; first | (rw [if_pos (by decide +kernel)]; kernel_rfl) | (rw [if_neg (by decide +kernel)]; exact ⟨rfl, rfl⟩))
    (fun os started H enc _ => card_lifted os started H enc)
theorem fnWriteMsg_holds : Rows.FnWriteMsgCardSaid :=
  Claim7.holds_tied_plain_at .later [] [.data, .data, .data, .data, .sentinel, .sentinel, .sentinel, .pinned, .pinned] true (true, "99dc93ef578a16b8b0acd5db8b4b94e718a5d506aa5ff2604b2cf741b65c5509") true card_holds (fun _ h => by cases h) (by kernel_rfl) (fun _ h => by cases h) fnWriteMsg_row_tie rfl ⟨rfl, rfl⟩ (by kernel_rfl) rfl
    (fun f fn hf hfn => by
      obtain rfl : f = 5 := Option.some.inj ((show Tryz.prog.funcNamed "pub-teleprinter/laws.FnWriteMsg" = some 5 by kernel_rfl).symm.trans hf) |>.symm
      obtain rfl : fn = Tryz.f5 := (Option.some.inj (Tryz.func5.symm.trans hfn)).symm
      exact ⟨by kernel_rfl, fun j t ht => by
        rw [Tryz.params5] at ht
        have hm : t ∈ [9, 2, 30, 4] := by simpa using Array.mem_of_getElem? ht
        have hall : ([9, 2, 30, 4].all fun u => !Tryz.prog.wantsStandIn u) = true := by kernel_rfl
        exact (show Tryz.prog.wantsStandIn t = false by simpa using List.all_eq_true.1 hall t hm)⟩)
    (by kernel_rfl)
#print axioms fnWriteMsg_holds
end Go.Proofs.YtpkkgngpjeoffaaGreatDoor
