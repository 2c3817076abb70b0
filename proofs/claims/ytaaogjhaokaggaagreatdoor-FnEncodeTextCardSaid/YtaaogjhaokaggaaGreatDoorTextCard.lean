/-
  PROVED HERE: the tied card of 'laws.FnEncodeText': for all arguments that can be read the law returns true and its arguments read afterwards as before.
  CONDITIONS: those of the given row alone: the listed package-level variables start as the program's text lays them (the card ties them; the pinned tables are held against the form's constants; the cut is a pruned copy of the project).
-/
import Derived.Test.YtaaogjhaokaggaaGreatDoorTextW
import Derived.Test.YtaaogjhaokaggaaGreatDoorOpenL
import Derived.Test.YtaaogjhaokaggaaGreatDoorTextCardJ
import Derived.Test.YtaaogjhaokaggaaGreatDoorLaid
import Derived.Test.YtaaogjhaokaggaaGreatDoorCards
import Derived.Test.YtaaogjhaokaggaaGreatDoorTie
import Derived.ProofKit
import Derived.Carry
import Derived.OpenShut
import Derived.LaidMore
import Derived.Lay
import Derived.SevenTiedAt
namespace Go.Proofs.YtaaogjhaokaggaaGreatDoor
open Go.ChangeShapes Go.WideShapes Go.ChangeAt Go.RowKit

section
variable {H : Type} {enc : TypeId × Value → H} {P : Program} {w : World} {base : Nat} {spare : Nat → Bool} {held : Bool}
theorem trodAll_seven {t1 t2 t3 t4 t5 t6 t7 : TypeId} {args : Array Value} {ds : List (DataW H)} {ps : List MemPlace} (h : DataW.TrodAll enc P w base spare held [t1, t2, t3, t4, t5, t6, t7] args.toList ds ps) :
    ∃ v1 v2 v3 v4 v5 v6 v7 d1 d2 d3 d4 d5 d6 d7 p1 p2 p3 p4 p5 p6 p7, args = #[v1, v2, v3, v4, v5, v6, v7] ∧ ds = [d1, d2, d3, d4, d5, d6, d7] ∧ ps = p1 ++ (p2 ++ (p3 ++ (p4 ++ (p5 ++ (p6 ++ p7))))) ∧
      DataW.Trod enc P w base spare held t1 v1 d1 p1 ∧ DataW.Trod enc P w base spare held t2 v2 d2 p2 ∧ DataW.Trod enc P w base spare held t3 v3 d3 p3 ∧ DataW.Trod enc P w base spare held t4 v4 d4 p4 ∧ DataW.Trod enc P w base spare held t5 v5 d5 p5 ∧ DataW.Trod enc P w base spare held t6 v6 d6 p6 ∧ DataW.Trod enc P w base spare held t7 v7 d7 p7 := by
  obtain ⟨v1, vs, d1, ds', p1, q, hargs, rfl, rfl, hd1, h⟩ := trodAll_cons h
  obtain ⟨v2, vs, d2, ds', p2, q, rfl, rfl, rfl, hd2, h⟩ := trodAll_cons h
  obtain ⟨v3, vs, d3, ds', p3, q, rfl, rfl, rfl, hd3, h⟩ := trodAll_cons h
  obtain ⟨v4, vs, d4, ds', p4, q, rfl, rfl, rfl, hd4, h⟩ := trodAll_cons h
  obtain ⟨v5, vs, d5, ds', p5, q, rfl, rfl, rfl, hd5, h⟩ := trodAll_cons h
  obtain ⟨v6, vs, d6, ds', p6, q, rfl, rfl, rfl, hd6, h⟩ := trodAll_cons h
  obtain ⟨v7, vs, d7, ds', p7, q, rfl, rfl, rfl, hd7, h⟩ := trodAll_cons h
  obtain ⟨rfl, rfl, rfl⟩ := trodAll_nil h
  exact ⟨v1, v2, v3, v4, v5, v6, v7, d1, d2, d3, d4, d5, d6, d7, p1, p2, p3, p4, p5, p6, p7, by cases args; simp_all, rfl, by simp, hd1, hd2, hd3, hd4, hd5, hd6, hd7⟩
theorem trodAll_mk7 {t1 t2 t3 t4 t5 t6 t7 : TypeId} {v1 v2 v3 v4 v5 v6 v7 : Value} {d1 d2 d3 d4 d5 d6 d7 : DataW H} {p1 p2 p3 p4 p5 p6 p7 : List MemPlace}
    (h1 : DataW.Trod enc P w base spare held t1 v1 d1 p1) (h2 : DataW.Trod enc P w base spare held t2 v2 d2 p2) (h3 : DataW.Trod enc P w base spare held t3 v3 d3 p3) (h4 : DataW.Trod enc P w base spare held t4 v4 d4 p4) (h5 : DataW.Trod enc P w base spare held t5 v5 d5 p5) (h6 : DataW.Trod enc P w base spare held t6 v6 d6 p6) (h7 : DataW.Trod enc P w base spare held t7 v7 d7 p7) :
    DataW.TrodAll enc P w base spare held [t1, t2, t3, t4, t5, t6, t7] [v1, v2, v3, v4, v5, v6, v7] [d1, d2, d3, d4, d5, d6, d7] (p1 ++ (p2 ++ (p3 ++ (p4 ++ (p5 ++ (p6 ++ p7)))))) :=
  ⟨_, _, h1, ⟨_, _, h2, ⟨_, _, h3, ⟨_, _, h4, ⟨_, _, h5, trodAll_mk2 h6 h7, rfl⟩, rfl⟩, rfl⟩, rfl⟩, rfl⟩
end

theorem ownC : ownKnob Tryz.prog.godebug = none := by kernel_rfl

set_option maxRecDepth 100000 in
theorem card_lifted (os : Os) (started : os.Started) (H : Type) (enc : TypeId × Value → H) :
    ReturnsInHanded {} Tryz.checked os 13 .any (fun w args => (Rows.fnEncodeTextSpec.pre enc Tryz.prog Tryz.f13 [] false w args ∧ laidMetH Tryz.prog Rows.fnEncodeTextRow.laid w) ∧ sizedMet enc Tryz.prog Tryz.f13 (OpenSpec.ofChange Rows.fnEncodeTextSpec) false w args)
      (Rows.fnEncodeTextSpec.post enc Tryz.prog Tryz.f13 false true false false) := by
  refine returnsInHanded_of_change_and (C := Tryz.checked) (X := fun w _ => laidMetH Tryz.prog Rows.fnEncodeTextRow.laid w) (fun _ _ _ hh h => h.of_heap hh) ownC started (by kernel_rfl) Tryz.func13
    (ChangeSpec.witness_shaped (enc := enc) (C := Tryz.checked) (os := os) (X := fun w _ => laidMetH Tryz.prog Rows.fnEncodeTextRow.laid w) false (World.laidAll Tryz.prog os Rows.fnEncodeTextRow.laid) #[.string ⟨#[]⟩, .string ⟨#[]⟩, .string ⟨#[]⟩, .string ⟨#[]⟩, .agg #[.int .i64 0, .string ⟨#[]⟩, .int .i64 0, .int .u64 0, .float .f64 0, .bool false], .int .i64 0, .int .i64 0] 8 (World.laidAll_os _ _ _)
      (World.shaped_of_ZipB (by kernel_rfl) (by kernel_rfl)) (by kernel_rfl) (by kernel_rfl) (by kernel_rfl)
      (by rw [MakeChecks.laidMetH_plain _ _ _ (by kernel_rfl)]; exact laidMet_laidAll _ (by kernel_rfl) (by kernel_rfl))) ?_
  intro W base args ds gs before hval0 hW _ _ hL _
  have hval : ∀ (j : Nat) t v, Tryz.f13.params[j]? = some t → args[j]? = some v → Value.okWide Tryz.prog W .any base t v := hval0
  have hW' := hW
  obtain ⟨p, q, hA0, hV, rfl, _, _⟩ := hW
  have hA : DataW.TrodAll enc Tryz.prog W 0 (fun _ => true) true Tryz.f13.params.toList args.toList ds p := hA0
  rw [Tryz.params13] at hA hval
  obtain ⟨v0, v1, v2, v3, v4, v5, v6, d0, d1, d2, d3, d4, d5, d6, p0, p1, p2, p3, p4, p5, p6, rfl, rfl, rfl, h0, h1, h2, h3, h4, h5, h6⟩ := trodAll_seven hA
  obtain ⟨rfl, rfl⟩ := trodVars_none hV
  obtain ⟨x0, rfl, rfl, rfl, w0⟩ := ChangeMaps.open_string Tryz.underlying9 (hval 0 9 v0 rfl rfl) h0
  obtain ⟨x1, rfl, rfl, rfl, w1⟩ := ChangeMaps.open_string Tryz.underlying9 (hval 1 9 v1 rfl rfl) h1
  obtain ⟨x2, rfl, rfl, rfl, w2⟩ := ChangeMaps.open_string Tryz.underlying9 (hval 2 9 v2 rfl rfl) h2
  obtain ⟨x3, rfl, rfl, rfl, w3⟩ := ChangeMaps.open_string Tryz.underlying9 (hval 3 9 v3 rfl rfl) h3
  obtain ⟨cs4, rfl, hcs4⟩ := okWide_struct Tryz.underlying25 (hval 4 25 v4 rfl rfl)
  have k4 := h4
  obtain ⟨fuel4, g4⟩ := h4
  obtain ⟨x4, hd4, wk4, ws4, wn4, wu4, wf4, hz4⟩ := open_value g4
  have hz4' : p4 = [] := hz4
  have hd4' : cs4.toList = x4.cells.toList := hd4
  obtain rfl := Array.toList_inj.1 hd4'
  subst hz4'
  obtain ⟨x5, rfl, rfl, rfl, w5⟩ := open_int Tryz.underlying2 (hval 5 2 v5 rfl rfl) h5
  have b5 : -9223372036854775808 ≤ x5 ∧ x5 ≤ 9223372036854775807 := by simpa [Lit.wf, IntKind.min, IntKind.max, IntKind.signed, IntKind.bits] using w5
  obtain ⟨x6, rfl, rfl, rfl, w6⟩ := open_int Tryz.underlying3 (hval 6 3 v6 rfl rfl) h6
  have b6 : -9223372036854775808 ≤ x6 ∧ x6 ≤ 9223372036854775807 := by simpa [Lit.wf, IntKind.min, IntKind.max, IntKind.signed, IntKind.bits] using w6
  simp only [List.append_nil] at hW'
  rw [MakeChecks.laidMetH_plain _ _ _ (by kernel_rfl)] at hL
  obtain ⟨ea, hG⟩ := gl_of_laid hL (by simp [Rows.fnEncodeTextRow]) (by simp [Rows.fnEncodeTextRow]) (by simp [Rows.fnEncodeTextRow]) (by simp [Rows.fnEncodeTextRow]) (by simp [Rows.fnEncodeTextRow]) (by simp [Rows.fnEncodeTextRow])
  refine (text_walk validSaid x0 x1 x2 x3 x4 x5 x6 (bounds_i64 wn4).1 (bounds_i64 wn4).2 (by have := bounds_u64 wu4; omega) (by simp [Lit.wf] at wf4; exact wf4) b5.1 b5.2 W hG).mono fun e W' ⟨he, hf⟩ => ?_
  subst he
  have hb : Below W.heap.size W W' := hf.below (Nat.le_refl _) (by simp)
  exact ⟨_, rfl, _, _, _, [], _, [], hW', trodAll_mk1 (shut_bool Tryz.underlying4 _), trodAll_mk7 (ChangeMaps.shut_string Tryz.underlying9 w0) (ChangeMaps.shut_string Tryz.underlying9 w1) (ChangeMaps.shut_string Tryz.underlying9 w2) (ChangeMaps.shut_string Tryz.underlying9 w3) (Below.trod laidOutT (by kernel_rfl) (of_decide_eq_true (by kernel_rfl)) k4 hb (fun x hx => by cases hx)) (shut_int Tryz.underlying2 w5) (shut_int Tryz.underlying3 w6), rfl, hb.frame _, fun h => by cases h⟩

theorem card_holds : Rows.FnEncodeTextSaid :=
  OpenClaim.holds_of_wide 13 Tryz.f13 rfl rfl rfl rfl rfl rfl rfl ⟨rfl, rfl, rfl, rfl, rfl⟩ rfl rfl rfl rfl rfl (by kernel_rfl) Tryz.func13 closed13
    (of_decide_eq_true (by kernel_rfl)) (by unfold Func.isWrapper; first | (rw [if_pos (by decide +kernel)]; kernel_rfl) | (rw [if_neg (by decide +kernel)]; exact ⟨rfl, rfl⟩))
    (fun os started H enc _ => card_lifted os started H enc)
theorem fnEncodeText_holds : Rows.FnEncodeTextCardSaid :=
  Claim7.holds_tied_plain_at .later [] [.data, .data, .data, .data, .data, .sentinel, .pinned, .pinned, .pinned, .pinned, .pinned, .pinned, .pinned, .pinned] true (true, "dfe5c0e3f43fbf57086c48fda6ae417ac652150c029ce6579978b0021020a072") true card_holds (fun _ h => by cases h) (by kernel_rfl) (fun _ h => by cases h) fnEncodeText_row_tie rfl ⟨rfl, rfl⟩ (by kernel_rfl) rfl
    (fun f fn hf hfn => by
      obtain rfl : f = 13 := Option.some.inj ((show Tryz.prog.funcNamed "pub-teleprinter/laws.FnEncodeText" = some 13 by kernel_rfl).symm.trans hf) |>.symm
      obtain rfl : fn = Tryz.f13 := (Option.some.inj (Tryz.func13.symm.trans hfn)).symm
      exact ⟨by kernel_rfl, fun j t ht => by
        rw [Tryz.params13] at ht
        have hm : t ∈ [9, 9, 9, 9, 25, 2, 3] := by simpa using Array.mem_of_getElem? ht
        have hall : ([9, 9, 9, 9, 25, 2, 3].all fun u => !Tryz.prog.wantsStandIn u) = true := by kernel_rfl
        exact (show Tryz.prog.wantsStandIn t = false by simpa using List.all_eq_true.1 hall t hm)⟩)
    (by kernel_rfl)
#print axioms fnEncodeText_holds
end Go.Proofs.YtaaogjhaokaggaaGreatDoor
