import Derived.Test.YtaaogjhaokaggaaGreatDoorSpC
import Derived.Lib.ItoaLen
import Derived.Lib.AppendIntMem
namespace Go.Proofs.YtaaogjhaokaggaaGreatDoor
open Go.RowKit Go.Sort

def VD.kinds (d : VD) : Bool := decide (0 ≤ d.kind ∧ d.kind ≤ 255 ∧ d.s.size ≤ 800)
set_option maxRecDepth 100000 in
set_option maxHeartbeats 2000000 in
theorem lKinds_one (d : VD) (g : Nat) (w : World) (hg : w.heap[g]? = some (.cells d.cells 25 (0, 0))) :
    Calls Tryz.prog 15 #[.slice (some ⟨g, 0, none⟩) 1 1] w fun e w' => e = .returned (.bool d.kinds) ∧ Fr [] w w' := by
  obtain ⟨k, s, n, u, f, x⟩ := d
  simp only [VD.cells, VD.kinds] at *
  have d0 : w.cell? ⟨g, 0, none⟩ = _ := cell_of_row w g 0 _ 25 _ hg
  have d1 : w.cell? ⟨g, 1, none⟩ = _ := cell_of_row w g 1 _ 25 _ hg
  have d2 : w.cell? ⟨g, 2, none⟩ = _ := cell_of_row w g 2 _ 25 _ hg
  have d3 : w.cell? ⟨g, 3, none⟩ = _ := cell_of_row w g 3 _ 25 _ hg
  have d4 : w.cell? ⟨g, 4, none⟩ = _ := cell_of_row w g 4 _ 25 _ hg
  have d5 : w.cell? ⟨g, 5, none⟩ = _ := cell_of_row w g 5 _ 25 _ hg
  clear hg
  have hsf : ∀ (a : Addr) (k : FloatKind) (b : Nat) (m : Mode) (w : World), (store a (.float k b) m).run Tryz.prog w = stored Tryz.prog w a (.float k b) m := fun a k b m w => run_store Tryz.prog w a _ m rfl
  by_cases h0 : k < 0
  · rw [decide_eq_false (by rintro ⟨a, b, c⟩; omega)]
    go_enter Tryz.func15, Tryz.ntmps15
    go_wp2_with fail
    refine wp_loop_rounds 2 ?_
    rw [rounds_succ]
    go_wp2_with fail
    go_ret
    exact ⟨rfl, (Fr.refl _ _).alloc _⟩
  by_cases h1 : 255 < k
  · rw [decide_eq_false (by rintro ⟨a, b, c⟩; omega)]
    have h0' : 0 ≤ k := by omega
    clear h0
    go_enter Tryz.func15, Tryz.ntmps15
    go_wp2_with fail
    refine wp_loop_rounds 2 ?_
    rw [rounds_succ]
    go_wp2_with fail
    go_ret
    exact ⟨rfl, (Fr.refl _ _).alloc _⟩
  have h0' : 0 ≤ k := by omega
  have h1' : k ≤ 255 := by omega
  clear h0 h1
  by_cases h2 : s.size ≤ 800
  · have hi : (s.size : Int) ≤ 800 := by omega
    rw [decide_eq_true ⟨h0', h1', h2⟩]
    go_enter Tryz.func15, Tryz.ntmps15
    go_wp2_with fail
    refine wp_loop_rounds 2 ?_
    rw [rounds_succ]
    go_wp2_with fail
    rw [rounds_succ]
    go_wp2_with fail
    go_ret
    exact ⟨rfl, (Fr.refl _ _).alloc _⟩
  · have hi : (800 : Int) < (s.size : Int) := by omega
    rw [decide_eq_false (by rintro ⟨a, b, c⟩; omega)]
    go_enter Tryz.func15, Tryz.ntmps15
    go_wp2_with fail
    refine wp_loop_rounds 2 ?_
    rw [rounds_succ]
    go_wp2_with fail
    go_ret
    exact ⟨rfl, (Fr.refl _ _).alloc _⟩

theorem ba_app (a b : List UInt8) : (⟨a.toArray⟩ : ByteArray) ++ ⟨b.toArray⟩ = ⟨(a ++ b).toArray⟩ := by
  apply ByteArray.ext
  rw [ByteArray.data_append]
  simp
theorem fr_grow {S : List Nat} (w : World) (k : Nat) (os : Array Obj) : Fr S w (grow (w.drewN k) os) := (Fr.of_below (Lib.below_grow w.heap.size w (Nat.le_refl _) k os)).sub (by simp)
theorem formatBool_len (b : Bool) : (Lib.formatBool b).length ≤ 5 := by cases b <;> decide
/-- spec.ValueText. -/
noncomputable def VD.text (d : VD) : List UInt8 :=
  if d.kind = 2 then Lib.itoa d.n ++ [105] else if d.kind = 3 then Lib.decDigits d.u ++ [117] else if d.kind = 4 then fTx d.f else if d.kind = 5 then Lib.formatBool d.b else [34] ++ spEsc 4 d.s.data.toList ++ [34]
set_option maxRecDepth 100000 in
set_option maxHeartbeats 2000000 in
theorem specText_any (d : VD) (hd : d.Ok) (hf : d.kind = 4 → finOk d.f) {B : Nat} {ea : Addr} (w : World) (hG : Gv B ea w) :
    Calls Tryz.prog 19 #[.agg d.cells] w fun e w' => e = .returned (.string ⟨d.text.toArray⟩) ∧ Fr [] w w' := by
  obtain ⟨k, s, n, u, f, x⟩ := d
  obtain ⟨hs, hn0, hn1, hu⟩ := hd
  simp only [VD.cells, VD.text] at *
  have hGa : ∀ o : Obj, Gv B ea (w.alloc o) := fun o => hG.fr ((Fr.refl [] w).alloc o) (fun _ h => by cases h)
  have HG := Lib.hid hGa; clear hGa hG
  obtain ⟨R, hR⟩ : ∃ R : List UInt8, R = (if k = 2 then Lib.itoa n ++ [105] else if k = 3 then Lib.decDigits u ++ [117] else if k = 4 then fTx f else if k = 5 then Lib.formatBool x else [34] ++ spEsc 4 s.data.toList ++ [34]) := ⟨_, rfl⟩
  rw [← hR]
  have HR := Lib.hid hR; clear hR
  by_cases h2 : k = 2
  · subst h2
    have hc := fun w (hG : Gv B ea w) => Tryz.strconv_FormatInt_10 n hn0 hn1 w hG.pow
    have HC := Lib.hid hc; clear hc
    have hl := Lib.itoa_length_le n hn0 hn1
    go_enter Tryz.func19, Tryz.ntmps19
    go_wp2_with (go_at_call 32; refine (HC.out _ (HG.out _)).mono ?_; rintro e w1 ⟨rfl, q, os, rfl⟩)
    go_ret
    refine ⟨?_, ((Fr.refl [] w).alloc _).trans (fr_grow _ _ _)⟩
    rw [show R = Lib.itoa n ++ [105] by rw [HR.out]; simp, ← ba_app]
    rfl
  have k2 : (k == 2) = false := by rw [beq_eq_false_iff_ne]; exact h2
  have N2 := Lib.hid h2; clear h2
  by_cases h3 : k = 3
  · subst h3
    have hc := fun w (hG : Gv B ea w) => formatUint_any u hu w hG
    have HC := Lib.hid hc; clear hc
    have hl := Lib.decDigits_length u
    have hl2 := Lib.nDigits_le20 u hu
    rw [← hl] at hl2
    clear hl
    go_enter Tryz.func19, Tryz.ntmps19
    go_wp2_with (go_at_call 39; refine (HC.out _ (HG.out _)).mono ?_; rintro e w1 ⟨rfl, hf1⟩; have HF1 := Lib.hid hf1; clear hf1)
    go_ret
    refine ⟨?_, ((Fr.refl [] w).alloc _).trans HF1.out⟩
    rw [show R = Lib.decDigits u ++ [117] by rw [HR.out]; simp, ← ba_app]
    rfl
  have k3 : (k == 3) = false := by rw [beq_eq_false_iff_ne]; exact h3
  have N3 := Lib.hid h3; clear h3
  by_cases h4 : k = 4
  · subst h4
    have hc := fun w (hG : Gv B ea w) => formatFloat_any f (hf rfl) w hG
    have HC := Lib.hid hc; clear hc hf
    go_enter Tryz.func19, Tryz.ntmps19
    go_wp2_with (go_at_call 40; refine (HC.out _ (HG.out _)).mono ?_; rintro e w1 ⟨rfl, hf1⟩; have HF1 := Lib.hid hf1; clear hf1)
    go_ret
    refine ⟨?_, ((Fr.refl [] w).alloc _).trans HF1.out⟩
    rw [show R = fTx f by rw [HR.out]; simp]
    rfl
  have k4 : (k == 4) = false := by rw [beq_eq_false_iff_ne]; exact h4
  have N4 := Lib.hid h4; clear h4 hf
  by_cases h5 : k = 5
  · subst h5
    go_enter Tryz.func19, Tryz.ntmps19
    go_wp2_with (go_at_call 41; refine (Tryz.strconv_FormatBool x _).mono ?_; rintro e w1 ⟨rfl, rfl⟩)
    go_ret
    refine ⟨?_, (Fr.refl [] w).alloc _⟩
    rw [show R = Lib.formatBool x by rw [HR.out]; simp]
    rfl
  have k5 : (k == 5) = false := by rw [beq_eq_false_iff_ne]; exact h5
  have N5 := Lib.hid h5; clear h5
  have hc := fun w => specEsc4 s (by omega) w
  have HC := Lib.hid hc; clear hc
  have hl := spEsc_len 4 s.data.toList
  have hl2 : (spEsc 4 s.data.toList).length ≤ 2000000 := by
    have : s.data.toList.length = s.size := by simp
    rw [this] at hl; omega
  clear hl
  go_enter Tryz.func19, Tryz.ntmps19
  go_wp2_with (go_at_call 42; refine (HC.out _).mono ?_; rintro e w1 ⟨rfl, hf1⟩; have HF1 := Lib.hid hf1; clear hf1)
  go_ret
  refine ⟨?_, ((Fr.refl [] w).alloc _).trans HF1.out⟩
  rw [HR.out, if_neg N2.out, if_neg N3.out, if_neg N4.out, if_neg N5.out, ← ba_app, ← ba_app]
  rfl
end Go.Proofs.YtaaogjhaokaggaaGreatDoor
