import Derived.Test.YtaaogjhaokaggaaGreatDoorSpB
import Derived.Test.YtaaogjhaokaggaaGreatDoorUtfX
import Derived.Test.YtaaogjhaokaggaaGreatDoorValP
import Derived.Test.YtaaogjhaokaggaaGreatDoorValA
import Derived.Lib.ItoaLen
import Derived.Lib.AppendIntMem
import Derived.Recover
import Derived.Defers
import Derived.Deep.RegionLaw
import Derived.WideLaws
namespace Go.Proofs.YtaaogjhaokaggaaGreatDoor
open Go.RowKit

/-- spec.CanBe. -/
def VD.can (d : VD) : Bool := if d.kind = 1 then Lib.validD d.s.data.toList else if d.kind = 4 then fin64 d.f else decide (d.kind = 2 ∨ d.kind = 3 ∨ d.kind = 5)

theorem rd_fin (n : Nat) (h : fin64 n = true) : ∃ s m i, FloatKind.f64.format.read n = .number s m i := by
  rw [fin64_iff] at h
  by_cases h0 : n % 9223372036854775808 < 4503599627370496
  · exact ⟨_, _, _, rd_small n h0⟩
  · exact ⟨_, _, _, rd_num n h0 h⟩
theorem sub_fin (n : Nat) (h : fin64 n = true) : FloatKind.f64.format.sub n n = some 0 := by
  obtain ⟨s, m, i, hr⟩ := rd_fin n h
  unfold Ieee.Format.sub
  rw [hr]
  simp only [Ieee.Datum.opposite, Ieee.Datum.sum]
  have e : Ieee.signed s m (i - min i i).toNat + Ieee.signed (!s) m (i - min i i).toNat = 0 := by
    cases s <;> simp [Ieee.signed] <;> omega
  rw [e]
  cases s <;> simp [Ieee.Format.write, Ieee.Format.nearest, Ieee.Format.word]
theorem sub_inf (n : Nat) (h : fin64 n = false) : FloatKind.f64.format.sub n n = none := by
  have h' : ¬ n % 9223372036854775808 < 9218868437227405312 := by rw [← fin64_iff, h]; decide
  unfold Ieee.Format.sub
  by_cases h1 : n % 9223372036854775808 = 9218868437227405312
  · rw [rd_inf n h1]
    cases (n / 9223372036854775808 % 2 == 1) <;> rfl
  · rw [rd_nan n (by omega)]
    rfl
def nanT (f : Nat) (w : World) : Nat := (Question.nanBits .f64 f f).cut (w.tape w.drawn (.nanBits .f64 f f))
theorem nanT_nan (f : Nat) (w : World) : (FloatKind.f64.format.order (nanT f w) 0 == some .eq) = false := by
  have h : 9218868437227405312 < nanT f w % 9223372036854775808 := by
    unfold nanT
    simp only [Question.cut]
    generalize w.tape w.drawn (.nanBits .f64 f f) = t
    have hr : t / 2 % (2 ^ 52 - 1) < 2 ^ 52 - 1 := Nat.mod_lt _ (by decide)
    generalize t / 2 % (2 ^ 52 - 1) = r at *
    rcases (show t % 2 = 0 ∨ t % 2 = 1 by omega) with e | e <;> rw [e] <;> omega
  show ((FloatKind.f64.format.read (nanT f w)).order _ == some .eq) = false
  rw [rd_nan _ h]
  rfl
theorem run_sub_fin (f : Nat) (h : fin64 f = true) (w : World) : (binOp .sub 23 (.float .f64 f) (.float .f64 f)).run Tryz.prog w = .ok (.float .f64 0) w :=
  run_float_arith (P := Tryz.prog) (w := w) .sub 23 .f64 f f 0 (sub_fin f h)
theorem run_sub_inf (f : Nat) (h : fin64 f = false) (w : World) : (binOp .sub 23 (.float .f64 f) (.float .f64 f)).run Tryz.prog w = .ok (.float .f64 (nanT f w)) w.drew := by
  have hs := sub_inf f h
  simp [binOp, Op.floatArith, hs, nanT, Question.forced]

set_option maxRecDepth 100000 in
theorem zzFits3_any (d : VD) (w : World) :
    Calls Tryz.prog 14 #[.agg d.cells] w fun e w' => e = .returned (.bool (decide (d.s.size ≤ 2147483647))) ∧ Fr [] w w' := by
  obtain ⟨k, s, n, u, f, x⟩ := d
  simp only [VD.cells]
  by_cases h : s.size ≤ 2147483647
  · have hi : (s.size : Int) ≤ 2147483647 := by omega
    rw [decide_eq_true h]
    go_enter Tryz.func14, Tryz.ntmps14
    go_wp2_with fail
    go_ret
    exact ⟨rfl, (Fr.refl _ _).alloc _⟩
  · have hi : (2147483647 : Int) < (s.size : Int) := by omega
    rw [decide_eq_false h]
    go_enter Tryz.func14, Tryz.ntmps14
    go_wp2_with fail
    go_ret
    exact ⟨rfl, (Fr.refl _ _).alloc _⟩
set_option maxRecDepth 100000 in
set_option maxHeartbeats 2000000 in
theorem canBe_any (d : VD) (hs : d.s.size ≤ 1000000000) (w : World) :
    Calls Tryz.prog 16 #[.agg d.cells] w fun e w' => e = .returned (.bool d.can) ∧ Fr [] w w' := by
  obtain ⟨k, s, n, u, f, x⟩ := d
  simp only [VD.cells, VD.can] at *
  by_cases h1 : k = 1
  · subst h1
    rw [if_pos rfl]
    have H := Lib.hid (fun w => specUtf8_any s hs w)
    go_enter Tryz.func16, Tryz.ntmps16
    go_wp2_with (go_at_call 33; refine (H.out _).mono ?_; rintro e w1 ⟨rfl, rfl⟩)
    go_ret
    exact ⟨rfl, (Fr.refl _ _).alloc _⟩
  rw [if_neg h1]
  by_cases h4 : k = 4
  · subst h4
    rw [if_pos rfl]
    cases hf : fin64 f with
    | true =>
      have hr := fun w => run_sub_fin f hf w
      clear hf
      go_enter Tryz.func16, Tryz.ntmps16
      go_wp2_with fail
      go_ret
      exact ⟨rfl, (Fr.refl _ _).alloc _⟩
    | false =>
      have hr := fun w => run_sub_inf f hf w
      have hn := fun w => nanT_nan f w
      clear hf
      go_enter Tryz.func16, Tryz.ntmps16
      go_wp2_with fail
      go_ret
      exact ⟨rfl, ((Fr.refl _ _).alloc _).drew⟩
  rw [if_neg h4]
  have k1 : (k == 1) = false := by rw [beq_eq_false_iff_ne]; exact h1
  have k4 : (k == 4) = false := by rw [beq_eq_false_iff_ne]; exact h4
  clear h1 h4
  by_cases h2 : k = 2
  · subst h2
    go_enter Tryz.func16, Tryz.ntmps16
    go_wp2_with fail
    go_ret
    exact ⟨rfl, (Fr.refl _ _).alloc _⟩
  by_cases h3 : k = 3
  · subst h3
    go_enter Tryz.func16, Tryz.ntmps16
    go_wp2_with fail
    go_ret
    exact ⟨rfl, (Fr.refl _ _).alloc _⟩
  by_cases h5 : k = 5
  · subst h5
    go_enter Tryz.func16, Tryz.ntmps16
    go_wp2_with fail
    go_ret
    exact ⟨rfl, (Fr.refl _ _).alloc _⟩
  have k2 : (k == 2) = false := by rw [beq_eq_false_iff_ne]; exact h2
  have k3 : (k == 3) = false := by rw [beq_eq_false_iff_ne]; exact h3
  have k5 : (k == 5) = false := by rw [beq_eq_false_iff_ne]; exact h5
  rw [decide_eq_false (by rintro (h | h | h); exact h2 h; exact h3 h; exact h5 h)]
  clear h2 h3 h5
  go_enter Tryz.func16, Tryz.ntmps16
  go_wp2_with fail
  go_ret
  exact ⟨rfl, (Fr.refl _ _).alloc _⟩
end Go.Proofs.YtaaogjhaokaggaaGreatDoor
namespace Go.Proofs.YtaaogjhaokaggaaGreatDoor
open Go.RowKit Go.Sort

def VD.kinds (d : VD) : Bool := decide (0 ≤ d.kind ∧ d.kind ≤ 255 ∧ d.s.size ≤ 800)
set_option maxRecDepth 100000 in
set_option maxHeartbeats 2000000 in
theorem lKinds_one (d : VD) (g : Nat) (w : World) (hg : w.heap[g]? = some (.cells d.cells 25 (0, 0))) :
    Calls Tryz.prog 15 #[.slice (some ⟨g, 0, none⟩) 1 1] w fun e w' => e = .returned (.bool d.kinds) ∧ Fr [] w w' := by
  obtain ⟨k, s, n, u, f, x⟩ := d
  simp only [VD.cells, VD.kinds] at *
  have d0 : w.cell? ⟨g, 0, none⟩ = _ := cell_of_row w g 0 _ 25 _ hg
  have d1 : w.cell? ⟨g, 1, none⟩ = _ := cell_of_row w g 1 _ 25 _ hg
  have d2 : w.cell? ⟨g, 2, none⟩ = _ := cell_of_row w g 2 _ 25 _ hg
  have d3 : w.cell? ⟨g, 3, none⟩ = _ := cell_of_row w g 3 _ 25 _ hg
  have d4 : w.cell? ⟨g, 4, none⟩ = _ := cell_of_row w g 4 _ 25 _ hg
  have d5 : w.cell? ⟨g, 5, none⟩ = _ := cell_of_row w g 5 _ 25 _ hg
  clear hg
  have hsf : ∀ (a : Addr) (k : FloatKind) (b : Nat) (m : Mode) (w : World), (store a (.float k b) m).run Tryz.prog w = stored Tryz.prog w a (.float k b) m := fun a k b m w => run_store Tryz.prog w a _ m rfl
  by_cases h0 : k < 0
  · rw [decide_eq_false (by rintro ⟨a, b, c⟩; omega)]
    go_enter Tryz.func15, Tryz.ntmps15
    go_wp2_with fail
    refine wp_loop_rounds 2 ?_
    rw [rounds_succ]
    go_wp2_with fail
    go_ret
    exact ⟨rfl, (Fr.refl _ _).alloc _⟩
  by_cases h1 : 255 < k
  · rw [decide_eq_false (by rintro ⟨a, b, c⟩; omega)]
    have h0' : 0 ≤ k := by omega
    clear h0
    go_enter Tryz.func15, Tryz.ntmps15
    go_wp2_with fail
    refine wp_loop_rounds 2 ?_
    rw [rounds_succ]
    go_wp2_with fail
    go_ret
    exact ⟨rfl, (Fr.refl _ _).alloc _⟩
  have h0' : 0 ≤ k := by omega
  have h1' : k ≤ 255 := by omega
  clear h0 h1
  by_cases h2 : s.size ≤ 800
  · have hi : (s.size : Int) ≤ 800 := by omega
    rw [decide_eq_true ⟨h0', h1', h2⟩]
    go_enter Tryz.func15, Tryz.ntmps15
    go_wp2_with fail
    refine wp_loop_rounds 2 ?_
    rw [rounds_succ]
    go_wp2_with fail
    rw [rounds_succ]
    go_wp2_with fail
    go_ret
    exact ⟨rfl, (Fr.refl _ _).alloc _⟩
  · have hi : (800 : Int) < (s.size : Int) := by omega
    rw [decide_eq_false (by rintro ⟨a, b, c⟩; omega)]
    go_enter Tryz.func15, Tryz.ntmps15
    go_wp2_with fail
    refine wp_loop_rounds 2 ?_
    rw [rounds_succ]
    go_wp2_with fail
    go_ret
    exact ⟨rfl, (Fr.refl _ _).alloc _⟩

theorem ba_app (a b : List UInt8) : (⟨a.toArray⟩ : ByteArray) ++ ⟨b.toArray⟩ = ⟨(a ++ b).toArray⟩ := by
  apply ByteArray.ext
  rw [ByteArray.data_append]
  simp
theorem fr_grow {S : List Nat} (w : World) (k : Nat) (os : Array Obj) : Fr S w (grow (w.drewN k) os) := (Fr.of_below (Lib.below_grow w.heap.size w (Nat.le_refl _) k os)).sub (by simp)
theorem formatBool_len (b : Bool) : (Lib.formatBool b).length ≤ 5 := by cases b <;> decide
/-- spec.ValueText. -/
noncomputable def VD.text (d : VD) : List UInt8 :=
  if d.kind = 2 then Lib.itoa d.n ++ [105] else if d.kind = 3 then Lib.decDigits d.u ++ [117] else if d.kind = 4 then fTx d.f else if d.kind = 5 then Lib.formatBool d.b else [34] ++ spEsc 4 d.s.data.toList ++ [34]
set_option maxRecDepth 100000 in
set_option maxHeartbeats 2000000 in
theorem specText_any (d : VD) (hd : d.Ok) (hf : d.kind = 4 → finOk d.f) {B : Nat} {ea : Addr} (w : World) (hG : Gv B ea w) :
    Calls Tryz.prog 19 #[.agg d.cells] w fun e w' => e = .returned (.string ⟨d.text.toArray⟩) ∧ Fr [] w w' := by
  obtain ⟨k, s, n, u, f, x⟩ := d
  obtain ⟨hs, hn0, hn1, hu⟩ := hd
  simp only [VD.cells, VD.text] at *
  have hGa : ∀ o : Obj, Gv B ea (w.alloc o) := fun o => hG.fr ((Fr.refl [] w).alloc o) (fun _ h => by cases h)
  have HG := Lib.hid hGa; clear hGa hG
  obtain ⟨R, hR⟩ : ∃ R : List UInt8, R = (if k = 2 then Lib.itoa n ++ [105] else if k = 3 then Lib.decDigits u ++ [117] else if k = 4 then fTx f else if k = 5 then Lib.formatBool x else [34] ++ spEsc 4 s.data.toList ++ [34]) := ⟨_, rfl⟩
  rw [← hR]
  have HR := Lib.hid hR; clear hR
  by_cases h2 : k = 2
  · subst h2
    have hc := fun w (hG : Gv B ea w) => Tryz.strconv_FormatInt_10 n hn0 hn1 w hG.pow
    have HC := Lib.hid hc; clear hc
    have hl := Lib.itoa_length_le n hn0 hn1
    go_enter Tryz.func19, Tryz.ntmps19
    go_wp2_with (go_at_call 32; refine (HC.out _ (HG.out _)).mono ?_; rintro e w1 ⟨rfl, q, os, rfl⟩)
    go_ret
    refine ⟨?_, ((Fr.refl [] w).alloc _).trans (fr_grow _ _ _)⟩
    rw [show R = Lib.itoa n ++ [105] by rw [HR.out]; simp, ← ba_app]
    rfl
  have k2 : (k == 2) = false := by rw [beq_eq_false_iff_ne]; exact h2
  have N2 := Lib.hid h2; clear h2
  by_cases h3 : k = 3
  · subst h3
    have hc := fun w (hG : Gv B ea w) => formatUint_any u hu w hG
    have HC := Lib.hid hc; clear hc
    have hl := Lib.decDigits_length u
    have hl2 := Lib.nDigits_le20 u hu
    rw [← hl] at hl2
    clear hl
    go_enter Tryz.func19, Tryz.ntmps19
    go_wp2_with (go_at_call 39; refine (HC.out _ (HG.out _)).mono ?_; rintro e w1 ⟨rfl, hf1⟩; have HF1 := Lib.hid hf1; clear hf1)
    go_ret
    refine ⟨?_, ((Fr.refl [] w).alloc _).trans HF1.out⟩
    rw [show R = Lib.decDigits u ++ [117] by rw [HR.out]; simp, ← ba_app]
    rfl
  have k3 : (k == 3) = false := by rw [beq_eq_false_iff_ne]; exact h3
  have N3 := Lib.hid h3; clear h3
  by_cases h4 : k = 4
  · subst h4
    have hc := fun w (hG : Gv B ea w) => formatFloat_any f (hf rfl) w hG
    have HC := Lib.hid hc; clear hc hf
    go_enter Tryz.func19, Tryz.ntmps19
    go_wp2_with (go_at_call 40; refine (HC.out _ (HG.out _)).mono ?_; rintro e w1 ⟨rfl, hf1⟩; have HF1 := Lib.hid hf1; clear hf1)
    go_ret
    refine ⟨?_, ((Fr.refl [] w).alloc _).trans HF1.out⟩
    rw [show R = fTx f by rw [HR.out]; simp]
    rfl
  have k4 : (k == 4) = false := by rw [beq_eq_false_iff_ne]; exact h4
  have N4 := Lib.hid h4; clear h4 hf
  by_cases h5 : k = 5
  · subst h5
    go_enter Tryz.func19, Tryz.ntmps19
    go_wp2_with (go_at_call 41; refine (Tryz.strconv_FormatBool x _).mono ?_; rintro e w1 ⟨rfl, rfl⟩)
    go_ret
    refine ⟨?_, (Fr.refl [] w).alloc _⟩
    rw [show R = Lib.formatBool x by rw [HR.out]; simp]
    rfl
  have k5 : (k == 5) = false := by rw [beq_eq_false_iff_ne]; exact h5
  have N5 := Lib.hid h5; clear h5
  have hc := fun w => specEsc4 s (by omega) w
  have HC := Lib.hid hc; clear hc
  have hl := spEsc_len 4 s.data.toList
  have hl2 : (spEsc 4 s.data.toList).length ≤ 2000000 := by
    have : s.data.toList.length = s.size := by simp
    rw [this] at hl; omega
  clear hl
  go_enter Tryz.func19, Tryz.ntmps19
  go_wp2_with (go_at_call 42; refine (HC.out _).mono ?_; rintro e w1 ⟨rfl, hf1⟩; have HF1 := Lib.hid hf1; clear hf1)
  go_ret
  refine ⟨?_, ((Fr.refl [] w).alloc _).trans HF1.out⟩
  rw [HR.out, if_neg N2.out, if_neg N3.out, if_neg N4.out, if_neg N5.out, ← ba_app, ← ba_app]
  rfl
end Go.Proofs.YtaaogjhaokaggaaGreatDoor
namespace Go.Proofs.YtaaogjhaokaggaaGreatDoor
open Go.RowKit

theorem recover_idle2 (a b : Addr) (w : World) :
    CallsD Tryz.prog 37 #[.pointer (some a), .pointer (some b)] .returning w fun e u' w' => e = .returned (.tuple #[]) ∧ u' = .returning ∧ w' = w := by
  refine callsD_of_wpS Tryz.func37 rfl fun c₀ cs hu => ?_
  apply wpS_seq
  apply wpS_region
  simp [wpOpsS, go_sem, recoverD, hu, Tryz.ntmps37, Exit.thenS]
  refine wpS_cond (t := false) (by simp [Act.eval, Array.replicate]) ?_
  simp only [Bool.false_eq_true, if_false]
  refine wpS_of_wp (wp_skip ?_)
  cases c₀
  simp_all [bodyPostS, results, Tryz.results37]

theorem lv_lt {w : World} {v : Value} {x : Val} (h : LV w v x) : ∀ g, lvBlock v = some g → g < w.heap.size := by
  intro g hg
  cases x with
  | str s =>
    obtain ⟨b, rfl, ho⟩ := h
    exact ho.lt g (by simpa [lvBlock] using hg)
  | int _ => obtain ⟨rfl, _⟩ := h; simp [lvBlock, Value.ownBlock] at hg
  | uint _ => obtain ⟨rfl, _⟩ := h; simp [lvBlock, Value.ownBlock] at hg
  | flt _ => cases h; simp [lvBlock, Value.ownBlock] at hg
  | bool _ => cases h; simp [lvBlock, Value.ownBlock] at hg
set_option maxRecDepth 100000 in
set_option maxHeartbeats 4000000 in
theorem implText_any (hV : ValidSaid) {ea : Addr} {B0 : Nat} (d : VD) (hd : d.Ok) (x : Val) (hx : d.made = some x) (hfin : ∀ n, x = .flt n → finOk n) (hxs : ∀ s, x = .str s → s.length ≤ 1000000) (t : ByteArray) (ht : t.size ≤ 100000000) (w : World) (hG : Gv B0 ea w) :
    Calls Tryz.prog 18 #[.string t, .agg d.cells] w fun e w' => e = .returned (.tuple #[.string ⟨(t.data.toList ++ valText fTx x).toArray⟩, .bool true]) ∧ Fr [] w w' := by
  have hG0 := hG.base
  have hval := fun w (hG : Gv B0 ea w) => value_any hV d hd (fun _ => floatValue_any) w hG
  rw [hx] at hval
  have HVAL := Lib.hid hval
  have HX := Lib.hid hfin
  have HXS := Lib.hid hxs
  clear hval hfin hxs hx hd
  have hmf : ∀ (fn : Fn) (first cap : Array Value) (w : World), (Instr.makeFunc fn first cap).run Tryz.prog w = .ok (.func fn first cap) w := fun _ _ _ _ => rfl
  have hsf : ∀ (a : Addr) (k : FloatKind) (b : Nat) (m : Mode) (w : World), (store a (.float k b) m).run Tryz.prog w = stored Tryz.prog w a (.float k b) m := fun a k b m w => run_store Tryz.prog w a _ m rfl
  obtain ⟨k, s, n, u, f, xx⟩ := d
  simp only [VD.cells] at *
  -- the world behind the boxes
  have hw3 : ∃ w3, w3 = ((w.alloc (.cells #[.int .i64 k, .string s, .int .i64 n, .int .u64 u, .float .f64 f, .bool xx] 25)).alloc (.cells #[.string ⟨#[]⟩] 9)).alloc (.cells #[.bool false] 4) := ⟨_, rfl⟩
  obtain ⟨w3, hw3⟩ := hw3
  have hf3 : Fr [] w w3 := by rw [hw3]; exact (((Fr.refl [] w).alloc _).alloc _).alloc _
  have hs3 : w3.heap.size = w.heap.size + 3 := by rw [hw3]; simp
  have hb0 : w3.heap[w.heap.size]? = some (.cells #[.int .i64 k, .string s, .int .i64 n, .int .u64 u, .float .f64 f, .bool xx] 25 (0, 0)) := by
    rw [hw3]
    exact (((Fr.refl [] _).alloc _).alloc _).blk (heap_alloc_new w _) List.not_mem_nil
  have hb1 : w3.heap[w.heap.size + 1]? = some (.cells #[.string ⟨#[]⟩] 9 (0, 0)) := by
    rw [hw3]
    have := ((Fr.refl [] _).alloc (.cells #[.bool false] 4)).blk (heap_alloc_new (w.alloc (.cells #[.int .i64 k, .string s, .int .i64 n, .int .u64 u, .float .f64 f, .bool xx] 25)) (.cells #[.string ⟨#[]⟩] 9)) List.not_mem_nil
    simpa using this
  have hb2 : w3.heap[w.heap.size + 2]? = some (.cells #[.bool false] 4 (0, 0)) := by
    rw [hw3]
    have := heap_alloc_new ((w.alloc (.cells #[.int .i64 k, .string s, .int .i64 n, .int .u64 u, .float .f64 f, .bool xx] 25)).alloc (.cells #[.string ⟨#[]⟩] 9)) (.cells #[.bool false] 4)
    simpa using this
  have HB0 := Lib.hid hb0
  have HB1 := Lib.hid hb1
  have HB2 := Lib.hid hb2
  have HF3 := Lib.hid hf3
  have HG3 := Lib.hid (hG.fr hf3 (fun _ h => by cases h))
  have HGB := Lib.hid (hG0.fr hf3 (fun _ h => by cases h))
  have HS3 := Lib.hid hs3
  have HW3 := Lib.hid hw3
  clear hb0 hb1 hb2 hf3 hs3 hw3 hG hG0
  go_enter_defers Tryz.func18, Tryz.ntmps18
  go_upto_region 2 with fail
  rw [← HW3.out]
  have d0 : w3.cell? ⟨w.heap.size, 0, none⟩ = _ := cell_of_row w3 w.heap.size 0 _ 25 _ HB0.out
  have d1 : w3.cell? ⟨w.heap.size, 1, none⟩ = _ := cell_of_row w3 w.heap.size 1 _ 25 _ HB0.out
  have d2 : w3.cell? ⟨w.heap.size, 2, none⟩ = _ := cell_of_row w3 w.heap.size 2 _ 25 _ HB0.out
  have d3 : w3.cell? ⟨w.heap.size, 3, none⟩ = _ := cell_of_row w3 w.heap.size 3 _ 25 _ HB0.out
  have d4 : w3.cell? ⟨w.heap.size, 4, none⟩ = _ := cell_of_row w3 w.heap.size 4 _ 25 _ HB0.out
  have d5 : w3.cell? ⟨w.heap.size, 5, none⟩ = _ := cell_of_row w3 w.heap.size 5 _ 25 _ HB0.out
  go_upto_region 5 with (go_at_call 35; refine (HVAL.out _ HG3.out).mono ?_; rintro e w4 ⟨hf4, v, rfl, hlv, hlb⟩; obtain ⟨n', a', c', e', k', rfl⟩ := lv_shape0 hlv; have HF4 := Lib.hid hf4; have HLV : Hid (LV w4 (.agg #[.int .u64 n', .slice a' c' e', .int .u8 k']) x) := Lib.hid hlv; have HLB := Lib.hid hlb; clear hf4 hlv hlb)
  obtain ⟨w5, hw5⟩ : ∃ x, x = w4.alloc (.cells #[.int .u64 n', .slice a' c' e', .int .u8 k'] 69) := ⟨_, rfl⟩
  rw [← hw5]
  have hf5 : Fr [] w4 w5 := by rw [hw5]; exact (Fr.refl [] w4).alloc _
  have hr5 : w5.heap[w4.heap.size]? = some (.cells #[.int .u64 n', .slice a' c' e', .int .u8 k'] 69 (0, 0)) := by rw [hw5]; exact heap_alloc_new _ _
  have hs5 : w5.heap.size = w4.heap.size + 1 := by rw [hw5]; simp
  have c0 : w5.cell? ⟨w4.heap.size, 0, none⟩ = _ := cell_of_row w5 w4.heap.size 0 _ 69 _ hr5
  have c1 : w5.cell? ⟨w4.heap.size, 1, none⟩ = _ := cell_of_row w5 w4.heap.size 1 _ 69 _ hr5
  have c2 : w5.cell? ⟨w4.heap.size, 2, none⟩ = _ := cell_of_row w5 w4.heap.size 2 _ 69 _ hr5
  obtain ⟨cc, w6, hcv, ho6, hf6⟩ := conv_str t (by omega) w5
  have HF6 := Lib.hid ((HF3.out.trans HF4.out).trans (hf5.trans hf6))
  have HF36 := Lib.hid (HF4.out.trans (hf5.trans hf6))
  have hlv6 : LV w6 (.agg #[.int .u64 n', .slice a' c' e', .int .u8 k']) x := LV.frS (hf5.trans hf6) HLV.out (fun _ _ => List.not_mem_nil)
  have HLV6 := Lib.hid hlv6
  have HO6 := Lib.hid ho6
  have hne : ∀ g, lvBlock (.agg #[.int .u64 n', .slice a' c' e', .int .u8 k']) = some g → (Value.slice (some ⟨w5.heap.size, 0, none⟩) t.size cc).ownBlock ≠ some g := by
    intro g hg he
    have hlt := lv_lt HLV.out g hg
    simp [Value.ownBlock] at he
    omega
  have happ := appBytes_any floatSaid (.agg #[.int .u64 n', .slice a' c' e', .int .u8 k']) x HX.out HXS.out (.slice (some ⟨w5.heap.size, 0, none⟩) t.size cc) t.data.toList w6 (HGB.out.fr HF36.out (fun _ h => by cases h)) hlv6 ho6 (by simp; omega) (fun g hg => by simp [Value.ownBlock] at hg; have := HF4.out.size; have := HF3.out.size; omega) hne
  have HAPP := Lib.hid happ
  have HS5 := Lib.hid (show w.heap.size + 3 < w5.heap.size by have := HF4.out.size; have := HS3.out; omega)
  clear happ hne hlv6 ho6 hf6 hf5 hr5 hs5 hw5 d0 d1 d2 d3 d4 d5
  go_wp2_with (go_at_call 38; refine HAPP.out.mono ?_; rintro e w7 ⟨v7, rfl, ho7, hs7⟩; have hcv7 := conv_own ho7; have HS7 := Lib.hid hs7; have HQ1 := Lib.hid (hs7.1.blk (HF36.out.blk HB1.out List.not_mem_nil) (fun hm => by simp [Value.ownBlock] at hm; have := HS5.out; omega)); have HQ2 := Lib.hid (hs7.1.blk (HF36.out.blk HB2.out List.not_mem_nil) (fun hm => by simp [Value.ownBlock] at hm; have := HS5.out; omega)); have q1 := cell_of_row w7 (w.heap.size + 1) 0 _ 9 _ HQ1.out; have q2 := cell_of_row w7 (w.heap.size + 1 + 1) 0 _ 4 _ HQ2.out; have f1 := frozen_of_row w7 (w.heap.size + 1) 0 _ 9 HQ1.out; have f2 := frozen_of_row w7 (w.heap.size + 1 + 1) 0 _ 4 HQ2.out; clear ho7 hs7)
  refine leaves_cons (f := 37) (args := #[.pointer (some ⟨w.heap.size + 1, 0, none⟩), .pointer (some ⟨w.heap.size + 1 + 1, 0, none⟩)]) (by simp) (by simp [go_sem]) ?_
  refine (recover_idle2 _ _ _).mono ?_
  rintro e u' w'' ⟨rfl, rfl, rfl⟩
  simp [Leaves, settle, results, Tryz.results18, go_sem, q1, q2]
  exact (((HF6.out.step HS7.out.1 (fun t ht => .inr (by simp [Value.ownBlock] at ht; have := HS5.out; omega))).setCell (.inr (by simp)) _).setCell (.inr (by simp; omega)) _)
end Go.Proofs.YtaaogjhaokaggaaGreatDoor
namespace Go.Proofs.YtaaogjhaokaggaaGreatDoor
open Go.RowKit Go.Sort

/-- The escapes of a text, as the program and as spec have them. -/
theorem escS_all : ∀ c : Fin 256, escB (tOf sS) (UInt8.ofNat c.val) = spE 4 (UInt8.ofNat c.val) := by decide +kernel
theorem escS_one (c : UInt8) : escB (tOf sS) c = spE 4 c := by
  have h := escS_all ⟨c.toNat, c.toNat_lt⟩
  have e : UInt8.ofNat c.toNat = c := UInt8.ofNat_toNat
  simp only [e] at h
  exact h
theorem escS_eq (l : List UInt8) : esc (tOf sS) l = spEsc 4 l := by
  unfold esc spEsc
  congr 1
  funext c
  exact escS_one c
theorem can_made (d : VD) (h : d.can = true) : ∃ x, d.made = some x ∧ valText fTx x = d.text := by
  obtain ⟨k, s, n, u, f, b⟩ := d
  simp only [VD.can, VD.made, VD.text] at *
  by_cases h1 : k = 1
  · subst h1
    rw [if_pos rfl] at h
    rw [if_pos rfl, if_pos h]
    refine ⟨_, rfl, ?_⟩
    simp [valText, escS_eq]
  rw [if_neg h1] at h ⊢
  by_cases h4 : k = 4
  · subst h4
    rw [if_pos rfl] at h
    rw [if_neg (by decide), if_neg (by decide), if_pos rfl, if_pos h]
    refine ⟨_, rfl, ?_⟩
    simp [valText]
  rw [if_neg h4] at h
  have h := of_decide_eq_true h
  rcases h with rfl | rfl | rfl
  · refine ⟨.int n, by simp, ?_⟩
    simp [valText]
  · refine ⟨.uint u, by simp, ?_⟩
    simp [valText]
  · refine ⟨.bool b, by simp, ?_⟩
    cases b <;> rfl
theorem text_len (d : VD) (hd : d.Ok) : d.text.length ≤ 3000000 := by
  obtain ⟨k, s, n, u, f, b⟩ := d
  obtain ⟨hs, hn0, hn1, hu⟩ := hd
  simp only [VD.text] at *
  have h1 := Lib.itoa_length_le n hn0 hn1
  have h2 : (Lib.decDigits u).length ≤ 20 := by rw [Lib.decDigits_length]; exact Lib.nDigits_le20 u hu
  have h3 := fTx_len f
  have h4 : (Lib.formatBool b).length ≤ 5 := formatBool_len b
  have h5 := spEsc_len 4 s.data.toList
  have h6 : s.data.toList.length = s.size := by simp
  repeat' split
  all_goals (try simp only [List.length_append, List.length_cons, List.length_nil])
  all_goals omega

set_option maxRecDepth 100000 in
set_option maxHeartbeats 4000000 in
theorem valueText_walk (hV : ValidSaid) {ea : Addr} {B0 : Nat} (t : ByteArray) (d : VD) (hn0 : -9223372036854775808 ≤ d.n) (hn1 : d.n ≤ 9223372036854775807) (hu : d.u < 18446744073709551616) (hf : d.f < 18446744073709551616) (w : World) (hG : Gv B0 ea w) :
    Calls Tryz.prog 4 #[.string t, .agg d.cells] w fun e w' => e = .returned (.bool true) ∧ Fr [] w w' := by
  obtain ⟨k, s, n, u, f, x⟩ := d
  simp only at hn0 hn1 hu hf
  have hsf : ∀ (a : Addr) (k : FloatKind) (b : Nat) (m : Mode) (w : World), (store a (.float k b) m).run Tryz.prog w = stored Tryz.prog w a (.float k b) m := fun a k b m w => run_store Tryz.prog w a _ m rfl
  obtain ⟨Z, hZ⟩ : ∃ Z, Z = decide (s.size ≤ 2147483647) := ⟨_, rfl⟩
  obtain ⟨K, hK⟩ : ∃ K, K = VD.kinds ⟨k, s, n, u, f, x⟩ := ⟨_, rfl⟩
  obtain ⟨C, hC⟩ : ∃ C, C = VD.can ⟨k, s, n, u, f, x⟩ := ⟨_, rfl⟩
  have hz := fun w => zzFits3_any ⟨k, s, n, u, f, x⟩ w
  have hk := fun g w hg => lKinds_one ⟨k, s, n, u, f, x⟩ g w hg
  simp only [VD.cells] at hz hk
  rw [← hZ] at hz
  rw [← hK] at hk
  have HZE := Lib.hid hZ
  have HKE := Lib.hid hK
  have HCE := Lib.hid hC
  clear hZ hK hC
  simp only [VD.cells]
  have HZ := Lib.hid hz
  have HK := Lib.hid hk
  clear hz hk
  have HF0 : Hid (Fr [] w (w.alloc (.cells #[.int .i64 k, .string s, .int .i64 n, .int .u64 u, .float .f64 f, .bool x] 25))) := Lib.hid ((Fr.refl _ _).alloc _)
  have HR0 := Lib.hid (heap_alloc_new w (.cells #[.int .i64 k, .string s, .int .i64 n, .int .u64 u, .float .f64 f, .bool x] 25))
  by_cases h1 : t.size ≤ 2147483647
  case neg =>
    have hi : (2147483647 : Int) < (t.size : Int) := by omega
    clear hG
    go_enter Tryz.func4, Tryz.ntmps4
    go_wp2_with fail
    go_ret
    exact ⟨rfl, HF0.out⟩
  have hi : (t.size : Int) ≤ 2147483647 := by omega
  cases Z with
  | false =>
    clear hG
    go_enter Tryz.func4, Tryz.ntmps4
    go_wp2_with (go_at_call 14; refine (HZ.out _).mono ?_; rintro e w1 ⟨rfl, hf1⟩)
    go_ret
    exact ⟨rfl, HF0.out.trans hf1⟩
  | true =>
    have hs := of_decide_eq_true HZE.out.symm
    cases K with
    | false =>
      clear hG
      go_enter Tryz.func4, Tryz.ntmps4
      go_wp2_with (first
        | (go_at_call 14; refine (HZ.out _).mono ?_; rintro e w1 ⟨rfl, hf1⟩; have HF1 := Lib.hid hf1; have HR1 := Lib.hid (hf1.blk HR0.out List.not_mem_nil); have d0 := cell_of_row w1 w.heap.size 0 _ 25 _ HR1.out; have d1 := cell_of_row w1 w.heap.size 1 _ 25 _ HR1.out; have d2 := cell_of_row w1 w.heap.size 2 _ 25 _ HR1.out; have d3 := cell_of_row w1 w.heap.size 3 _ 25 _ HR1.out; have d4 := cell_of_row w1 w.heap.size 4 _ 25 _ HR1.out; have d5 := cell_of_row w1 w.heap.size 5 _ 25 _ HR1.out; clear hf1)
        | (go_at_call 15; refine (HK.out _ _ (heap_alloc_new _ _)).mono ?_; rintro e w2 ⟨rfl, hf2⟩))
      go_ret
      exact ⟨rfl, (HF0.out.trans HF1.out).trans (((Fr.refl [] w1).alloc _).trans hf2)⟩
    | true =>
      have hkk := of_decide_eq_true HKE.out.symm
      simp only at hkk
      by_cases h8 : t.size ≤ 800
      case neg =>
        have h8i : (800 : Int) < (t.size : Int) := by omega
        have HKK := Lib.hid hkk; clear hkk hG
        go_enter Tryz.func4, Tryz.ntmps4
        go_wp2_with (first
          | (go_at_call 14; refine (HZ.out _).mono ?_; rintro e w1 ⟨rfl, hf1⟩; have HF1 := Lib.hid hf1; have HR1 := Lib.hid (hf1.blk HR0.out List.not_mem_nil); have d01 := cell_of_row w1 w.heap.size 0 _ 25 _ HR1.out; have d11 := cell_of_row w1 w.heap.size 1 _ 25 _ HR1.out; have d21 := cell_of_row w1 w.heap.size 2 _ 25 _ HR1.out; have d31 := cell_of_row w1 w.heap.size 3 _ 25 _ HR1.out; have d41 := cell_of_row w1 w.heap.size 4 _ 25 _ HR1.out; have d51 := cell_of_row w1 w.heap.size 5 _ 25 _ HR1.out; clear hf1)
          | (go_at_call 15; refine (HK.out _ _ (heap_alloc_new _ _)).mono ?_; rintro e w2 ⟨rfl, hf2⟩))
        go_ret
        exact ⟨rfl, (HF0.out.trans HF1.out).trans (((Fr.refl [] w1).alloc _).trans hf2)⟩
      have h8i : (t.size : Int) ≤ 800 := by omega
      have hc := fun w => canBe_any ⟨k, s, n, u, f, x⟩ (by simp only; omega) w
      simp only [VD.cells] at hc
      rw [← HCE.out] at hc
      have HC := Lib.hid hc; clear hc
      cases C with
      | false =>
        have HKK := Lib.hid hkk; clear hkk hG
        go_enter Tryz.func4, Tryz.ntmps4
        go_wp2_with (first
          | (go_at_call 14; refine (HZ.out _).mono ?_; rintro e w1 ⟨rfl, hf1⟩; have HF1 := Lib.hid hf1; have HR1 := Lib.hid (hf1.blk HR0.out List.not_mem_nil); have d01 := cell_of_row w1 w.heap.size 0 _ 25 _ HR1.out; have d11 := cell_of_row w1 w.heap.size 1 _ 25 _ HR1.out; have d21 := cell_of_row w1 w.heap.size 2 _ 25 _ HR1.out; have d31 := cell_of_row w1 w.heap.size 3 _ 25 _ HR1.out; have d41 := cell_of_row w1 w.heap.size 4 _ 25 _ HR1.out; have d51 := cell_of_row w1 w.heap.size 5 _ 25 _ HR1.out; clear hf1)
          | (go_at_call 15; refine (HK.out _ _ (heap_alloc_new _ _)).mono ?_; rintro e w2 ⟨rfl, hf2⟩; have HF2 := Lib.hid (((Fr.refl [] w1).alloc _).trans hf2); have HR2 := Lib.hid (HF2.out.blk HR1.out List.not_mem_nil); have d02 := cell_of_row w2 w.heap.size 0 _ 25 _ HR2.out; have d12 := cell_of_row w2 w.heap.size 1 _ 25 _ HR2.out; have d22 := cell_of_row w2 w.heap.size 2 _ 25 _ HR2.out; have d32 := cell_of_row w2 w.heap.size 3 _ 25 _ HR2.out; have d42 := cell_of_row w2 w.heap.size 4 _ 25 _ HR2.out; have d52 := cell_of_row w2 w.heap.size 5 _ 25 _ HR2.out; clear hf2)
          | (go_at_call 16; refine (HC.out _).mono ?_; rintro e w3 ⟨rfl, hf3⟩))
        go_ret
        exact ⟨rfl, ((HF0.out.trans HF1.out).trans HF2.out).trans hf3⟩
      | true =>
        obtain ⟨y, hy, hty⟩ := can_made ⟨k, s, n, u, f, x⟩ HCE.out.symm
        have hok : VD.Ok ⟨k, s, n, u, f, x⟩ := ⟨by simp only; omega, hn0, hn1, hu⟩
        have hfin : ∀ m, y = .flt m → finOk m := by
          intro m hm
          subst hm
          simp only [VD.made] at hy
          repeat' split at hy
          all_goals first | (cases hy; exact ⟨hf, by assumption⟩) | cases hy
        have hys : ∀ q, y = .str q → q.length ≤ 1000000 := by
          intro q hq
          subst hq
          simp only [VD.made] at hy
          repeat' split at hy
          all_goals first | (cases hy; simp; omega) | cases hy
        have hff : k = 4 → finOk f := by
          intro h4
          have := HCE.out
          simp only [VD.can] at this
          rw [h4, if_neg (by decide), if_pos rfl] at this
          exact ⟨hf, this.symm⟩
        have hi2 := fun w (hG : Gv B0 ea w) => implText_any hV ⟨k, s, n, u, f, x⟩ hok y hy hfin hys t (by omega) w hG
        have hs2 := fun w (hG : Gv B0 ea w) => specText_any ⟨k, s, n, u, f, x⟩ hok hff w hG
        have htl := text_len ⟨k, s, n, u, f, x⟩ hok
        rw [hty] at hi2
        simp only [VD.cells] at hi2 hs2
        obtain ⟨X, hX⟩ : ∃ X, X = VD.text ⟨k, s, n, u, f, x⟩ := ⟨_, rfl⟩
        rw [← hX] at hi2 hs2 htl
        have HI2 := Lib.hid hi2
        have HS2 := Lib.hid hs2
        have hcat : t ++ (⟨X.toArray⟩ : ByteArray) = ⟨(t.data.toList ++ X).toArray⟩ := by rw [← ba_app]
        have HGG := Lib.hid hG
        have HKK := Lib.hid hkk
        clear hkk hG hi2 hs2 hX hy hty hok hfin hys hff
        go_enter Tryz.func4, Tryz.ntmps4
        go_wp2_with (first
          | (go_at_call 14; refine (HZ.out _).mono ?_; rintro e w1 ⟨rfl, hf1⟩; have HF1 := Lib.hid hf1; have HR1 := Lib.hid (hf1.blk HR0.out List.not_mem_nil); have d01 := cell_of_row w1 w.heap.size 0 _ 25 _ HR1.out; have d11 := cell_of_row w1 w.heap.size 1 _ 25 _ HR1.out; have d21 := cell_of_row w1 w.heap.size 2 _ 25 _ HR1.out; have d31 := cell_of_row w1 w.heap.size 3 _ 25 _ HR1.out; have d41 := cell_of_row w1 w.heap.size 4 _ 25 _ HR1.out; have d51 := cell_of_row w1 w.heap.size 5 _ 25 _ HR1.out; clear hf1)
          | (go_at_call 15; refine (HK.out _ _ (heap_alloc_new _ _)).mono ?_; rintro e w2 ⟨rfl, hf2⟩; have HF2 := Lib.hid (((Fr.refl [] w1).alloc _).trans hf2); have HR2 := Lib.hid (HF2.out.blk HR1.out List.not_mem_nil); have d02 := cell_of_row w2 w.heap.size 0 _ 25 _ HR2.out; have d12 := cell_of_row w2 w.heap.size 1 _ 25 _ HR2.out; have d22 := cell_of_row w2 w.heap.size 2 _ 25 _ HR2.out; have d32 := cell_of_row w2 w.heap.size 3 _ 25 _ HR2.out; have d42 := cell_of_row w2 w.heap.size 4 _ 25 _ HR2.out; have d52 := cell_of_row w2 w.heap.size 5 _ 25 _ HR2.out; clear hf2)
          | (go_at_call 16; refine (HC.out _).mono ?_; rintro e w3 ⟨rfl, hf3⟩; have HF3 := Lib.hid hf3; have HR3 := Lib.hid (hf3.blk HR2.out List.not_mem_nil); have d03 := cell_of_row w3 w.heap.size 0 _ 25 _ HR3.out; have d13 := cell_of_row w3 w.heap.size 1 _ 25 _ HR3.out; have d23 := cell_of_row w3 w.heap.size 2 _ 25 _ HR3.out; have d33 := cell_of_row w3 w.heap.size 3 _ 25 _ HR3.out; have d43 := cell_of_row w3 w.heap.size 4 _ 25 _ HR3.out; have d53 := cell_of_row w3 w.heap.size 5 _ 25 _ HR3.out; clear hf3; have HG3 := Lib.hid (HGG.out.fr (((HF0.out.trans HF1.out).trans HF2.out).trans HF3.out) (fun _ h => by cases h)))
          | (go_at_call 18; refine (HI2.out _ HG3.out).mono ?_; rintro e w4 ⟨rfl, hf4⟩; have HF4 := Lib.hid hf4; have HR4 := Lib.hid (hf4.blk HR3.out List.not_mem_nil); have d04 := cell_of_row w4 w.heap.size 0 _ 25 _ HR4.out; have d14 := cell_of_row w4 w.heap.size 1 _ 25 _ HR4.out; have d24 := cell_of_row w4 w.heap.size 2 _ 25 _ HR4.out; have d34 := cell_of_row w4 w.heap.size 3 _ 25 _ HR4.out; have d44 := cell_of_row w4 w.heap.size 4 _ 25 _ HR4.out; have d54 := cell_of_row w4 w.heap.size 5 _ 25 _ HR4.out; clear hf4)
          | (go_at_call 19; refine (HS2.out _ (HG3.out.fr HF4.out (fun _ h => by cases h))).mono ?_; rintro e w5 ⟨rfl, hf5⟩))
        go_ret
        exact ⟨rfl, (((HF0.out.trans HF1.out).trans HF2.out).trans HF3.out).trans (HF4.out.trans hf5)⟩
end Go.Proofs.YtaaogjhaokaggaaGreatDoor
