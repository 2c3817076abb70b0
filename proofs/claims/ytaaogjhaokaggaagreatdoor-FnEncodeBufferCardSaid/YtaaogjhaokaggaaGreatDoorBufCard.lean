/-
  PROVED HERE: the tied card of 'laws.FnEncodeBuffer': for all arguments that can be read the law returns true and its arguments read afterwards as before.
  CONDITIONS: those of the given row alone: the listed package-level variables start as the program's text lays them (the card ties them; the pinned tables are held against the form's constants; the cut is a pruned copy of the project).
-/
import Derived.Test.YtaaogjhaokaggaaGreatDoorBufW
import Derived.Test.YtaaogjhaokaggaaGreatDoorOpenL
import Derived.Test.YtaaogjhaokaggaaGreatDoorBufCardJ
import Derived.Test.YtaaogjhaokaggaaGreatDoorLaid
import Derived.Test.YtaaogjhaokaggaaGreatDoorCards
import Derived.Test.YtaaogjhaokaggaaGreatDoorTie
import Derived.ProofKit
import Derived.Carry
import Derived.OpenShut
import Derived.LaidMore
import Derived.Lay
import Derived.SevenTiedAt
namespace Go.Proofs.YtaaogjhaokaggaaGreatDoor
open Go.ChangeShapes Go.WideShapes Go.ChangeAt Go.RowKit

theorem ownC : ownKnob Tryz.prog.godebug = none := by kernel_rfl

set_option maxRecDepth 100000 in
theorem card_lifted (os : Os) (started : os.Started) (H : Type) (enc : TypeId × Value → H) :
    ReturnsInHanded {} Tryz.checked os 5 .any (fun w args => (Rows.fnEncodeBufferSpec.pre enc Tryz.prog Tryz.f5 [] false w args ∧ laidMetH Tryz.prog Rows.fnEncodeBufferRow.laid w) ∧ sizedMet enc Tryz.prog Tryz.f5 (OpenSpec.ofChange Rows.fnEncodeBufferSpec) false w args)
      (Rows.fnEncodeBufferSpec.post enc Tryz.prog Tryz.f5 false true false false) := by
  refine returnsInHanded_of_change_and (C := Tryz.checked) (X := fun w _ => laidMetH Tryz.prog Rows.fnEncodeBufferRow.laid w) (fun _ _ _ hh h => h.of_heap hh) ownC started (by kernel_rfl) Tryz.func5
    (ChangeSpec.witness_shaped (enc := enc) (C := Tryz.checked) (os := os) (X := fun w _ => laidMetH Tryz.prog Rows.fnEncodeBufferRow.laid w) false (World.laidAll Tryz.prog os Rows.fnEncodeBufferRow.laid) #[.string ⟨#[]⟩, .slice none 0 0, .bool false] 8 (World.laidAll_os _ _ _)
      (World.shaped_of_ZipB (by kernel_rfl) (by kernel_rfl)) (by kernel_rfl) (by kernel_rfl) (by kernel_rfl)
      (by rw [MakeChecks.laidMetH_plain _ _ _ (by kernel_rfl)]; exact laidMet_laidAll _ (by kernel_rfl) (by kernel_rfl))) ?_
  intro W base args ds gs before hval0 hW _ _ hL _
  have hval : ∀ (j : Nat) t v, Tryz.f5.params[j]? = some t → args[j]? = some v → Value.okWide Tryz.prog W .any base t v := hval0
  have hW' := hW
  obtain ⟨p, q, hA0, hV, rfl, _, _⟩ := hW
  have hA : DataW.TrodAll enc Tryz.prog W 0 (fun _ => true) true Tryz.f5.params.toList args.toList ds p := hA0
  rw [Tryz.params5] at hA hval
  obtain ⟨v0, v1, v2, d0, d1, d2, p0, p1, p2, rfl, rfl, rfl, h0, h1, h2⟩ := trodAll_three hA
  obtain ⟨rfl, rfl⟩ := trodVars_none hV
  obtain ⟨x0, rfl, rfl, rfl, w0⟩ := ChangeMaps.open_string Tryz.underlying9 (hval 0 9 v0 rfl rfl) h0
  obtain ⟨ta1, tl1, tc1, rfl⟩ := okWide_slice Tryz.underlying35 (hval 1 35 v1 rfl rfl)
  have k1 := h1
  obtain ⟨fuel1, g1⟩ := h1
  obtain ⟨z1, x1, c1, hP1, hl1, ho1⟩ := open_lines g1
  obtain rfl : z1 = Value.slice ta1 tl1 tc1 := (List.cons.inj (show [Value.slice ta1 tl1 tc1] = [z1] from c1)).1.symm
  obtain ⟨x2, rfl, rfl, rfl⟩ := open_bool Tryz.underlying4 (hval 2 4 v2 rfl rfl) h2
  simp only [List.append_nil] at hW'
  rw [MakeChecks.laidMetH_plain _ _ _ (by kernel_rfl)] at hL
  obtain ⟨ea, hG⟩ := gl_of_laid hL (by simp [Rows.fnEncodeBufferRow]) (by simp [Rows.fnEncodeBufferRow]) (by simp [Rows.fnEncodeBufferRow]) (by simp [Rows.fnEncodeBufferRow]) (by simp [Rows.fnEncodeBufferRow]) (by simp [Rows.fnEncodeBufferRow])
  refine (buf_walk validSaid x0 x1 _ x2 W hG (by unfold maxLen at hl1; omega) ho1 hP1).mono fun e W' ⟨he, hf⟩ => ?_
  subst he
  have hb : Below W.heap.size W W' := hf.below (Nat.le_refl _) (by simp)
  exact ⟨_, rfl, _, _, _, [], _, [], hW', trodAll_mk1 (shut_bool Tryz.underlying4 _), trodAll_mk3 (ChangeMaps.shut_string Tryz.underlying9 w0) (Below.trod laidOutT (by kernel_rfl) (of_decide_eq_true (by kernel_rfl)) k1 hb (fun x hx => by simpa using hW'.lt x (by simp [hx]))) (shut_bool Tryz.underlying4 _), rfl, hb.frame _, fun h => by cases h⟩

theorem card_holds : Rows.FnEncodeBufferSaid :=
  OpenClaim.holds_of_wide 5 Tryz.f5 rfl rfl rfl rfl rfl rfl rfl ⟨rfl, rfl, rfl, rfl, rfl⟩ rfl rfl rfl rfl rfl (by kernel_rfl) Tryz.func5 closed5
    (of_decide_eq_true (by kernel_rfl)) (by unfold Func.isWrapper; first | (rw [if_pos (by decide +kernel)]; kernel_rfl) | (rw [if_neg (by decide +kernel)]; exact ⟨rfl, rfl⟩))
    (fun os started H enc _ => card_lifted os started H enc)
theorem fnEncodeBuffer_holds : Rows.FnEncodeBufferCardSaid :=
  Claim7.holds_tied_plain_at .later [] [.data, .data, .data, .data, .data, .sentinel, .pinned, .pinned, .pinned, .pinned, .pinned, .pinned, .pinned, .pinned] true (true, "dfe5c0e3f43fbf57086c48fda6ae417ac652150c029ce6579978b0021020a072") true card_holds (fun _ h => by cases h) (by kernel_rfl) (fun _ h => by cases h) fnEncodeBuffer_row_tie rfl ⟨rfl, rfl⟩ (by kernel_rfl) rfl
    (fun f fn hf hfn => by
      obtain rfl : f = 5 := Option.some.inj ((show Tryz.prog.funcNamed "pub-teleprinter/laws.FnEncodeBuffer" = some 5 by kernel_rfl).symm.trans hf) |>.symm
      obtain rfl : fn = Tryz.f5 := (Option.some.inj (Tryz.func5.symm.trans hfn)).symm
      exact ⟨by kernel_rfl, fun j t ht => by
        rw [Tryz.params5] at ht
        have hm : t ∈ [9, 35, 4] := by simpa using Array.mem_of_getElem? ht
        have hall : ([9, 35, 4].all fun u => !Tryz.prog.wantsStandIn u) = true := by kernel_rfl
        exact (show Tryz.prog.wantsStandIn t = false by simpa using List.all_eq_true.1 hall t hm)⟩)
    (by kernel_rfl)
#print axioms fnEncodeBuffer_holds
end Go.Proofs.YtaaogjhaokaggaaGreatDoor
