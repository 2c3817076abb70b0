import Derived.Test.YtaaogjhaokaggaaGreatDoorTextA
import Derived.BigQuiet
import Derived.Laws.Concat
import Derived.Deep.RegionWith
import Derived.Lib.ItoaLen
namespace Go.Proofs.YtaaogjhaokaggaaGreatDoor
open Go.RowKit

theorem nice_text (name key value field : ByteArray) (d : VD) (n q : Int) (h1 : name.size ≤ 2000) (h2 : key.size ≤ 2000) (h3 : value.size ≤ 2000) (h4 : field.size ≤ 2000) (hs : d.s.size ≤ 2000) (hok : d.Ok) (hf : d.f < 18446744073709551616) (hc : d.can = true) (n0 : -9223372036854775808 ≤ n) (n1 : n ≤ 9223372036854775807) (q0 : 0 ≤ q) (q3 : q ≤ 3) : ∀ p, p ∈ textPuts name key value field d n q → Nice p := by
  intro p hp
  simp only [textPuts, List.mem_cons, List.not_mem_nil, or_false] at hp
  rcases hp with rfl | rfl | rfl | rfl | rfl
  · exact nice_begin false q q0 q3 _ (by simp [beginP])
  · exact nice_plain _ _ _ (by omega) h1 (by decide)
  · exact nice_plain _ _ _ (by omega) h2 h3
  · exact {
      op := by simp
      key := h4
      value := show (0 : Nat) ≤ 2000 by decide
      s := hs
      ok := hok
      flt := fun _ => hf
      can := fun _ => hc
      prec := fun h => by simp only at h; omega
      n0 := show (-9223372036854775808 : Int) ≤ 0 by decide
      n1 := show (0 : Int) ≤ 9223372036854775807 by decide
      m0 := show (-9223372036854775808 : Int) ≤ 0 by decide
      m1 := show (0 : Int) ≤ 9223372036854775807 by decide }
  · exact {
      op := by simp
      key := show (0 : Nat) ≤ 2000 by decide
      value := show (0 : Nat) ≤ 2000 by decide
      s := show (0 : Nat) ≤ 2000 by decide
      ok := nice_vd0
      flt := fun h => by cases h
      can := fun h => by simp only at h; omega
      prec := fun h => by simp only at h; omega
      n0 := n0
      n1 := n1
      m0 := show (-9223372036854775808 : Int) ≤ 0 by decide
      m1 := show (0 : Int) ≤ 9223372036854775807 by decide }
/-- The five calls, laid in a row. -/
def row5 (name key value field : ByteArray) (k : Int) (s : ByteArray) (vn : Int) (u f : Nat) (x : Bool) (n Q : Int) : Array Value := #[.int .i64 6, .string ⟨#[]⟩, .string ⟨#[]⟩, .int .i64 0, .string ⟨#[]⟩, .int .i64 0, .int .u64 0, .float .f64 0, .bool false, .int .i64 Q, .int .i64 0, .bool false, .int .i64 0, .string name, .string ⟨#[]⟩, .int .i64 0, .string ⟨#[]⟩, .int .i64 0, .int .u64 0, .float .f64 0, .bool false, .int .i64 0, .int .i64 0, .bool false, .int .i64 1, .string key, .string value, .int .i64 0, .string ⟨#[]⟩, .int .i64 0, .int .u64 0, .float .f64 0, .bool false, .int .i64 0, .int .i64 0, .bool false, .int .i64 2, .string field, .string ⟨#[]⟩, .int .i64 k, .string s, .int .i64 vn, .int .u64 u, .float .f64 f, .bool x, .int .i64 0, .int .i64 0, .bool false, .int .i64 3, .string ⟨#[]⟩, .string ⟨#[]⟩, .int .i64 0, .string ⟨#[]⟩, .int .i64 0, .int .u64 0, .float .f64 0, .bool false, .int .i64 n, .int .i64 0, .bool false]
theorem row5_cells (name key value field : ByteArray) (k : Int) (s : ByteArray) (vn : Int) (u f : Nat) (x : Bool) (n Q : Int) : (textPuts name key value field ⟨k, s, vn, u, f, x⟩ n Q).flatMap (·.cells.toList) = (row5 name key value field k s vn u f x n Q).toList := rfl
theorem row5_own (name key value field : ByteArray) (k : Int) (s : ByteArray) (vn : Int) (u f : Nat) (x : Bool) (n Q : Int) (w : World) : OwnC (w.alloc (.cells (row5 name key value field k s vn u f x n Q) 38)) 38 12 (.slice (some ⟨w.heap.size, 0, none⟩) 5 5) 5 (row5 name key value field k s vn u f x n Q).toList :=
  ⟨rfl, by simp [row5, Value.oneCell'], .inr ⟨_, 5, rfl, row5 name key value field k s vn u f x n Q, (0, 0), heap_alloc_new w _, fun j _ h => by omega, by simp [row5], Nat.le_refl _, List.take_length⟩⟩
theorem text_encode (hV : ValidSaid) {ea : Addr} {B0 : Nat} (name key value field : ByteArray) (k : Int) (s : ByteArray) (vn : Int) (u f : Nat) (x : Bool) (n Q : Int) (hnice : ∀ p, p ∈ textPuts name key value field ⟨k, s, vn, u, f, x⟩ n Q → Nice p) (st : St) (h1 : runs fTx St0 (textPuts name key value field ⟨k, s, vn, u, f, x⟩ n Q) = some st) (h2 : st.err = 0) (ww : World) (hg : Gl B0 ea ww) :
    Calls Tryz.prog 23 #[.slice (some ⟨ww.heap.size, 0, none⟩) 5 5] (ww.alloc (.cells (row5 name key value field k s vn u f x n Q) 38)) fun e w' => ∃ g cap, e = .returned (.tuple #[.string ⟨st.buf.toArray⟩, .slice (some ⟨g, 0, none⟩) 5 cap, .bool true]) ∧ Fr [] ww w' ∧ w'.cell? ⟨g, 12, none⟩ = some (.bool false) := by
  have hal : Fr [] ww (ww.alloc (.cells (row5 name key value field k s vn u f x n Q) 38)) := (Fr.refl _ _).alloc _
  have hl : (textPuts name key value field ⟨k, s, vn, u, f, x⟩ n Q).length = 5 := rfl
  have ho := row5_own name key value field k s vn u f x n Q ww
  rw [← row5_cells, ← hl] at ho
  refine (nice_encode hV (textPuts name key value field ⟨k, s, vn, u, f, x⟩ n Q) hnice (by rw [hl]; decide) _ _ (hg.fr hal (by simp)) ho).mono ?_
  intro e w' h
  obtain ⟨g, cap, k1, k2, _, k3, _⟩ := enc_known hnice h1 (by rw [hl]; decide) h
  rw [hl] at k1 k3
  rw [h2] at k3
  exact ⟨g, cap, k1, hal.trans k2, k3⟩
theorem add_small (x y : List UInt8) (hx : x.length ≤ 4000000) (hy : y.length ≤ 4000000) : ∀ w, (Op.stringOp .add ⟨x.toArray⟩ ⟨y.toArray⟩).run Tryz.prog w = .ok (.string ⟨(x ++ y).toArray⟩) w := fun w => run_string_add_lists w x y (by omega) (by omega)
theorem esc_small (q : List UInt8) (s : ByteArray) (h : s.size ≤ 2000) : (esc (tOf q) s.data.toList).length ≤ 100000 := by
  have h1 : ∀ l : List UInt8, (esc (tOf q) l).length ≤ 2 * l.length := fun l => by
    induction l with
    | nil => simp [esc]
    | cons c l ih =>
      have e : esc (tOf q) (c :: l) = escB (tOf q) c ++ esc (tOf q) l := by simp [esc]
      have h2 : (escB (tOf q) c).length ≤ 2 := by unfold escB; split <;> simp
      rw [e, List.length_append, List.length_cons]
      omega
  have h2 := h1 s.data.toList
  have h3 : s.data.toList.length = s.size := by simp
  omega
theorem fr_of_grow {w w' : World} (h : ∃ k os, w' = Go.Sort.grow (w.drewN k) os) : Fr [] w w' := by
  obtain ⟨k, os, rfl⟩ := h
  exact fr_grow _ _ _
theorem box6 {w : World} {b : Nat} {k : Int} {s : ByteArray} {vn : Int} {u f : Nat} {x : Bool} (h : w.heap[b]? = some (.cells #[.int .i64 k, .string s, .int .i64 vn, .int .u64 u, .float .f64 f, .bool x] 25 (0, 0))) :
    w.cell? ⟨b, 0, none⟩ = some (.int .i64 k) ∧ w.cell? ⟨b, 1, none⟩ = some (.string s) ∧ w.cell? ⟨b, 2, none⟩ = some (.int .i64 vn) ∧ w.cell? ⟨b, 3, none⟩ = some (.int .u64 (u : Int)) ∧ w.cell? ⟨b, 4, none⟩ = some (.float .f64 f) ∧ w.cell? ⟨b, 5, none⟩ = some (.bool x) :=
  ⟨cell_of_row w b 0 _ 25 _ h, cell_of_row w b 1 _ 25 _ h, cell_of_row w b 2 _ 25 _ h, cell_of_row w b 3 _ 25 _ h, cell_of_row w b 4 _ 25 _ h, cell_of_row w b 5 _ 25 _ h⟩

set_option maxRecDepth 100000 in
set_option maxHeartbeats 8000000 in
theorem text_walk (hV : ValidSaid) {ea : Addr} {B0 : Nat} (name key value field : ByteArray) (d : VD) (n q : Int) (hd0 : -9223372036854775808 ≤ d.n) (hd1 : d.n ≤ 9223372036854775807) (hdu : d.u < 18446744073709551616) (hdf : d.f < 18446744073709551616) (n0 : -9223372036854775808 ≤ n) (n1 : n ≤ 9223372036854775807) (w : World) (hG : Gl B0 ea w) :
    Calls Tryz.prog 13 #[.string name, .string key, .string value, .string field, .agg d.cells, .int .i64 n, .int .i64 q] w fun e w' => e = .returned (.bool true) ∧ Fr [] w w' := by
  have hsf : ∀ (a : Addr) (k : FloatKind) (b : Nat) (m : Mode) (w : World), (store a (.float k b) m).run Tryz.prog w = stored Tryz.prog w a (.float k b) m := fun a k b m w => run_store Tryz.prog w a _ m rfl
  obtain ⟨k, s, vn, u, f, x⟩ := d
  simp only at hd0 hd1 hdu hdf
  have HG := Lib.hid hG
  have HF0 : Hid (Fr [] w (w.alloc (.cells #[.int .i64 k, .string s, .int .i64 vn, .int .u64 u, .float .f64 f, .bool x] 25))) := Lib.hid ((Fr.refl _ _).alloc _)
  have HR0 := Lib.hid (heap_alloc_new w (.cells #[.int .i64 k, .string s, .int .i64 vn, .int .u64 u, .float .f64 f, .bool x] 25))
  clear hG
  simp only [VD.cells]
  by_cases h1 : name.size ≤ 2147483647
  case neg =>
    have g1 : decide ((2147483647 : Int) < (name.size : Int)) = true := decide_eq_true (by omega)
    go_enter Tryz.func13, Tryz.ntmps13
    go_wp2_with fail
    go_ret
    exact ⟨rfl, HF0.out⟩
  have g1 : decide ((2147483647 : Int) < (name.size : Int)) = false := decide_eq_false (by omega)
  by_cases h2 : key.size ≤ 2147483647
  case neg =>
    have g2 : decide ((2147483647 : Int) < (key.size : Int)) = true := decide_eq_true (by omega)
    go_enter Tryz.func13, Tryz.ntmps13
    go_wp2_with fail
    go_ret
    exact ⟨rfl, HF0.out⟩
  have g2 : decide ((2147483647 : Int) < (key.size : Int)) = false := decide_eq_false (by omega)
  by_cases h3 : value.size ≤ 2147483647
  case neg =>
    have g3 : decide ((2147483647 : Int) < (value.size : Int)) = true := decide_eq_true (by omega)
    go_enter Tryz.func13, Tryz.ntmps13
    go_wp2_with fail
    go_ret
    exact ⟨rfl, HF0.out⟩
  have g3 : decide ((2147483647 : Int) < (value.size : Int)) = false := decide_eq_false (by omega)
  by_cases h4 : field.size ≤ 2147483647
  case neg =>
    have g4 : decide ((2147483647 : Int) < (field.size : Int)) = true := decide_eq_true (by omega)
    go_enter Tryz.func13, Tryz.ntmps13
    go_wp2_with fail
    go_ret
    exact ⟨rfl, HF0.out⟩
  have g4 : decide ((2147483647 : Int) < (field.size : Int)) = false := decide_eq_false (by omega)
  obtain ⟨Z, hZ⟩ : ∃ Z, Z = decide (s.size ≤ 2147483647) := ⟨_, rfl⟩
  have hz := fun w => zzFits3_any ⟨k, s, vn, u, f, x⟩ w
  simp only [VD.cells] at hz
  rw [← hZ] at hz
  have HZ := Lib.hid hz
  have HZE := Lib.hid hZ
  clear hz hZ
  cases Z with
  | false =>
    go_enter Tryz.func13, Tryz.ntmps13
    go_wp2_with (go_at_call 14; refine (HZ.out _).mono ?_; rintro e w1 ⟨rfl, hf1⟩)
    go_ret
    exact ⟨rfl, HF0.out.trans hf1⟩
  | true =>
  have hs := of_decide_eq_true HZE.out.symm
  have H12 := Lib.hid (And.intro h1 (And.intro h2 (And.intro h3 h4)))
  go_enter Tryz.func13, Tryz.ntmps13
  go_upto_region 3 with (go_at_call 14; refine (HZ.out _).mono ?_; rintro e w1 ⟨rfl, hf1⟩; have HF1 := Lib.hid (HF0.out.trans hf1); have HR1 := Lib.hid (hf1.blk HR0.out List.not_mem_nil); clear hf1)
  clear g1 g2 g3 g4
  obtain ⟨d0, d1, d2, d3, d4, d5⟩ := box6 HR1.out
  have hi1 : (name.size : Int) ≤ 2147483647 := by omega
  have hi2 : (key.size : Int) ≤ 2147483647 := by omega
  have hi3 : (value.size : Int) ≤ 2147483647 := by omega
  have hi4 : (field.size : Int) ≤ 2147483647 := by omega
  clear h1 h2 h3 h4
  by_cases hsum : name.size + key.size + value.size + field.size ≤ 2000
  case neg =>
    have hsi : (2000 : Int) < (name.size : Int) + (key.size : Int) + (value.size : Int) + (field.size : Int) := by omega
    have hsd : decide ((2000 : Int) < (name.size : Int) + (key.size : Int) + (value.size : Int) + (field.size : Int)) = true := decide_eq_true hsi
    go_wp2_with fail
    go_ret
    exact ⟨rfl, HF1.out⟩
  have hsi : (name.size : Int) + (key.size : Int) + (value.size : Int) + (field.size : Int) ≤ 2000 := by omega
  have hsd : decide ((2000 : Int) < (name.size : Int) + (key.size : Int) + (value.size : Int) + (field.size : Int)) = false := decide_eq_false (by omega)
  obtain ⟨K, hK⟩ : ∃ K, K = VD.kinds ⟨k, s, vn, u, f, x⟩ := ⟨_, rfl⟩
  have hk := fun g w hg => lKinds_one ⟨k, s, vn, u, f, x⟩ g w hg
  simp only [VD.cells] at hk
  rw [← hK] at hk
  have HK := Lib.hid hk
  have HKE := Lib.hid hK
  have HSUM := Lib.hid hsum
  clear hk hK hsum hs
  cases K with
  | false =>
    go_wp2_with (go_at_call 15; refine (HK.out _ _ (heap_alloc_new _ _)).mono ?_; rintro e w2 ⟨rfl, hf2⟩)
    go_ret
    exact ⟨rfl, HF1.out.trans (((Fr.refl [] w1).alloc _).trans hf2)⟩
  | true =>
  have hkk := of_decide_eq_true HKE.out.symm
  simp only at hkk
  obtain ⟨C, hC⟩ : ∃ C, C = VD.can ⟨k, s, vn, u, f, x⟩ := ⟨_, rfl⟩
  have hc := fun w => canBe_any ⟨k, s, vn, u, f, x⟩ (by simp only; omega) w
  simp only [VD.cells] at hc
  rw [← hC] at hc
  have HC := Lib.hid hc
  have HCE := Lib.hid hC
  have HS8 := Lib.hid hkk.2.2
  have HKR := Lib.hid (fun (s : ByteArray) (hs : s.size ≤ 2000) w => (keyRight_any s (by omega) w).mono (fun (_ : Ending) (w' : World) h => (⟨h.1, h.2.symm⟩ : _ ∧ w = w')))
  have hkn := fun w => HKR.out name (by have := HSUM.out; omega) w
  have hky := fun w => HKR.out key (by have := HSUM.out; omega) w
  have hkv := fun w => HKR.out value (by have := HSUM.out; omega) w
  have hkf := fun w => HKR.out field (by have := HSUM.out; omega) w
  obtain ⟨kn, hkne⟩ : ∃ b, b = keyOk name.data.toList := ⟨_, rfl⟩
  obtain ⟨ky, hkye⟩ : ∃ b, b = keyOk key.data.toList := ⟨_, rfl⟩
  obtain ⟨kv, hkve⟩ : ∃ b, b = keyOk value.data.toList := ⟨_, rfl⟩
  obtain ⟨kf, hkfe⟩ : ∃ b, b = keyOk field.data.toList := ⟨_, rfl⟩
  rw [← hkne] at hkn
  rw [← hkye] at hky
  rw [← hkve] at hkv
  rw [← hkfe] at hkf
  have HN := Lib.hid hkn
  have HY := Lib.hid hky
  have HVV := Lib.hid hkv
  have HFD := Lib.hid hkf
  have HKS := Lib.hid (And.intro hkne (And.intro hkye (And.intro hkve hkfe)))
  clear hc hC hkk hkn hky hkv hkf hkne hkye hkve hkfe
  cases C with
  | false =>
    go_wp2_with (first
      | (go_at_call 15; refine (HK.out _ _ (heap_alloc_new _ _)).mono ?_; rintro e w2 ⟨rfl, hf2⟩; have HF2 := Lib.hid (HF1.out.trans (((Fr.refl [] w1).alloc _).trans hf2)); have hr2 := (((Fr.refl [] w1).alloc _).trans hf2).blk HR1.out List.not_mem_nil; have HR2 := Lib.hid hr2; obtain ⟨y0, y1, y2, y3, y4, y5⟩ := box6 hr2; clear hf2 hr2)
      | (go_at_call 16; refine (HC.out _).mono ?_; rintro e w3 ⟨rfl, hf3⟩; have HF3 := Lib.hid (HF2.out.trans hf3); have HR3 := Lib.hid (hf3.blk HR2.out List.not_mem_nil); clear hf3))
    go_ret
    exact ⟨rfl, HF3.out⟩
  | true =>
  by_cases q0 : 0 ≤ q
  case neg =>
    have hq0 : decide (q < 0) = true := decide_eq_true (by omega)
    go_wp2_with (first
      | (go_at_call 15; refine (HK.out _ _ (heap_alloc_new _ _)).mono ?_; rintro e w2 ⟨rfl, hf2⟩; have HF2 := Lib.hid (HF1.out.trans (((Fr.refl [] w1).alloc _).trans hf2)); have hr2 := (((Fr.refl [] w1).alloc _).trans hf2).blk HR1.out List.not_mem_nil; have HR2 := Lib.hid hr2; obtain ⟨y0, y1, y2, y3, y4, y5⟩ := box6 hr2; clear hf2 hr2)
      | (go_at_call 16; refine (HC.out _).mono ?_; rintro e w3 ⟨rfl, hf3⟩; have HF3 := Lib.hid (HF2.out.trans hf3); have HR3 := Lib.hid (hf3.blk HR2.out List.not_mem_nil); clear hf3))
    go_ret
    exact ⟨rfl, HF3.out⟩
  have hq0 : decide (q < 0) = false := decide_eq_false (by omega)
  by_cases q3 : q ≤ 3
  case neg =>
    have hq3 : decide (3 < q) = true := decide_eq_true (by omega)
    go_wp2_with (first
      | (go_at_call 15; refine (HK.out _ _ (heap_alloc_new _ _)).mono ?_; rintro e w2 ⟨rfl, hf2⟩; have HF2 := Lib.hid (HF1.out.trans (((Fr.refl [] w1).alloc _).trans hf2)); have hr2 := (((Fr.refl [] w1).alloc _).trans hf2).blk HR1.out List.not_mem_nil; have HR2 := Lib.hid hr2; obtain ⟨y0, y1, y2, y3, y4, y5⟩ := box6 hr2; clear hf2 hr2)
      | (go_at_call 16; refine (HC.out _).mono ?_; rintro e w3 ⟨rfl, hf3⟩; have HF3 := Lib.hid (HF2.out.trans hf3); have HR3 := Lib.hid (hf3.blk HR2.out List.not_mem_nil); clear hf3))
    go_ret
    exact ⟨rfl, HF3.out⟩
  have hq3 : decide (3 < q) = false := decide_eq_false (by omega)
  cases kn with
  | false =>
    go_wp2_with (first
      | (go_at_call 15; refine (HK.out _ _ (heap_alloc_new _ _)).mono ?_; rintro e w2 ⟨rfl, hf2⟩; have HF2 := Lib.hid (HF1.out.trans (((Fr.refl [] w1).alloc _).trans hf2)); have hr2 := (((Fr.refl [] w1).alloc _).trans hf2).blk HR1.out List.not_mem_nil; have HR2 := Lib.hid hr2; obtain ⟨y0, y1, y2, y3, y4, y5⟩ := box6 hr2; clear hf2 hr2)
      | (go_at_call 16; refine (HC.out _).mono ?_; rintro e w3 ⟨rfl, hf3⟩; have HF3 := Lib.hid (HF2.out.trans hf3); have HR3 := Lib.hid (hf3.blk HR2.out List.not_mem_nil); clear hf3)
      | (go_at_call_of 29 name; refine (HN.out _).mono ?_; rintro e w4 ⟨rfl, rfl⟩))
    go_ret
    exact ⟨rfl, HF3.out⟩
  | true =>
  cases ky with
  | false =>
    go_wp2_with (first
      | (go_at_call 15; refine (HK.out _ _ (heap_alloc_new _ _)).mono ?_; rintro e w2 ⟨rfl, hf2⟩; have HF2 := Lib.hid (HF1.out.trans (((Fr.refl [] w1).alloc _).trans hf2)); have hr2 := (((Fr.refl [] w1).alloc _).trans hf2).blk HR1.out List.not_mem_nil; have HR2 := Lib.hid hr2; obtain ⟨y0, y1, y2, y3, y4, y5⟩ := box6 hr2; clear hf2 hr2)
      | (go_at_call 16; refine (HC.out _).mono ?_; rintro e w3 ⟨rfl, hf3⟩; have HF3 := Lib.hid (HF2.out.trans hf3); have HR3 := Lib.hid (hf3.blk HR2.out List.not_mem_nil); clear hf3)
      | (go_at_call_of 29 name; refine (HN.out _).mono ?_; rintro e w4 ⟨rfl, rfl⟩)
      | (go_at_call_of 29 key; refine (HY.out _).mono ?_; rintro e w4 ⟨rfl, rfl⟩))
    go_ret
    exact ⟨rfl, HF3.out⟩
  | true =>
  cases kv with
  | false =>
    go_wp2_with (first
      | (go_at_call 15; refine (HK.out _ _ (heap_alloc_new _ _)).mono ?_; rintro e w2 ⟨rfl, hf2⟩; have HF2 := Lib.hid (HF1.out.trans (((Fr.refl [] w1).alloc _).trans hf2)); have hr2 := (((Fr.refl [] w1).alloc _).trans hf2).blk HR1.out List.not_mem_nil; have HR2 := Lib.hid hr2; obtain ⟨y0, y1, y2, y3, y4, y5⟩ := box6 hr2; clear hf2 hr2)
      | (go_at_call 16; refine (HC.out _).mono ?_; rintro e w3 ⟨rfl, hf3⟩; have HF3 := Lib.hid (HF2.out.trans hf3); have HR3 := Lib.hid (hf3.blk HR2.out List.not_mem_nil); clear hf3)
      | (go_at_call_of 29 name; refine (HN.out _).mono ?_; rintro e w4 ⟨rfl, rfl⟩)
      | (go_at_call_of 29 key; refine (HY.out _).mono ?_; rintro e w4 ⟨rfl, rfl⟩)
      | (go_at_call_of 29 value; refine (HVV.out _).mono ?_; rintro e w4 ⟨rfl, rfl⟩))
    go_ret
    exact ⟨rfl, HF3.out⟩
  | true =>
  cases kf with
  | false =>
    go_wp2_with (first
      | (go_at_call 15; refine (HK.out _ _ (heap_alloc_new _ _)).mono ?_; rintro e w2 ⟨rfl, hf2⟩; have HF2 := Lib.hid (HF1.out.trans (((Fr.refl [] w1).alloc _).trans hf2)); have hr2 := (((Fr.refl [] w1).alloc _).trans hf2).blk HR1.out List.not_mem_nil; have HR2 := Lib.hid hr2; obtain ⟨y0, y1, y2, y3, y4, y5⟩ := box6 hr2; clear hf2 hr2)
      | (go_at_call 16; refine (HC.out _).mono ?_; rintro e w3 ⟨rfl, hf3⟩; have HF3 := Lib.hid (HF2.out.trans hf3); have HR3 := Lib.hid (hf3.blk HR2.out List.not_mem_nil); clear hf3)
      | (go_at_call_of 29 name; refine (HN.out _).mono ?_; rintro e w4 ⟨rfl, rfl⟩)
      | (go_at_call_of 29 key; refine (HY.out _).mono ?_; rintro e w4 ⟨rfl, rfl⟩)
      | (go_at_call_of 29 value; refine (HVV.out _).mono ?_; rintro e w4 ⟨rfl, rfl⟩)
      | (go_at_call_of 29 field; refine (HFD.out _).mono ?_; rintro e w4 ⟨rfl, rfl⟩))
    go_ret
    exact ⟨rfl, HF3.out⟩
  | true =>
  go_upto_region 5 with (first
      | (go_at_call 15; refine (HK.out _ _ (heap_alloc_new _ _)).mono ?_; rintro e w2 ⟨rfl, hf2⟩; have HF2 := Lib.hid (HF1.out.trans (((Fr.refl [] w1).alloc _).trans hf2)); have hr2 := (((Fr.refl [] w1).alloc _).trans hf2).blk HR1.out List.not_mem_nil; have HR2 := Lib.hid hr2; obtain ⟨y0, y1, y2, y3, y4, y5⟩ := box6 hr2; clear hf2 hr2)
      | (go_at_call 16; refine (HC.out _).mono ?_; rintro e w3 ⟨rfl, hf3⟩; have HF3 := Lib.hid (HF2.out.trans hf3); have HR3 := Lib.hid (hf3.blk HR2.out List.not_mem_nil); clear hf3)
      | (go_at_call_of 29 name; refine (HN.out _).mono ?_; rintro e w4 ⟨rfl, rfl⟩)
      | (go_at_call_of 29 key; refine (HY.out _).mono ?_; rintro e w4 ⟨rfl, rfl⟩)
      | (go_at_call_of 29 value; refine (HVV.out _).mono ?_; rintro e w4 ⟨rfl, rfl⟩)
      | (go_at_call_of 29 field; refine (HFD.out _).mono ?_; rintro e w4 ⟨rfl, rfl⟩))
  clear hsi hsd hq0 hq3 d0 d1 d2 d3 d4 d5 y0 y1 y2 y3 y4 y5
  obtain ⟨Q, hQ⟩ : ∃ Q : Nat, q = (Q : Int) := ⟨q.toNat, by omega⟩
  subst hQ
  have hQ3 : Q ≤ 3 := by omega
  obtain ⟨y, hy, hty⟩ := can_made ⟨k, s, vn, u, f, x⟩ HCE.out.symm
  have hok : VD.Ok ⟨k, s, vn, u, f, x⟩ := ⟨by have := HS8.out; simp only; omega, hd0, hd1, hdu⟩
  have hfin : ∀ m, y = .flt m → finOk m := by
    intro m hm
    subst hm
    simp only [VD.made] at hy
    repeat' split at hy
    all_goals first | (cases hy; exact ⟨hdf, by assumption⟩) | cases hy
  have hys : ∀ q, y = .str q → q.length ≤ 1000000 := by
    intro q hq
    subst hq
    have := HS8.out
    simp only [VD.made] at hy
    repeat' split at hy
    all_goals first | (cases hy; simp; omega) | cases hy
  have hi2 := fun w (hG : Gv B0 ea w) => implText_any hV ⟨k, s, vn, u, f, x⟩ hok y hy hfin hys ⟨#[]⟩ (by decide) w hG
  have hvl := text_len ⟨k, s, vn, u, f, x⟩ hok
  rw [← hty] at hvl
  have hnice := nice_text name key value field ⟨k, s, vn, u, f, x⟩ n (Q : Int) (by have := HSUM.out; omega) (by have := HSUM.out; omega) (by have := HSUM.out; omega) (by have := HSUM.out; omega) (by have := HS8.out; simp only; omega) hok hdf HCE.out.symm n0 n1 q0 q3
  obtain ⟨stt, ht1, ht2, ht3⟩ := text_law name key value field ⟨k, s, vn, u, f, x⟩ y hy n (Q : Int) q0 q3 n0 n1 HKS.out.1.symm HKS.out.2.1.symm HKS.out.2.2.1.symm HKS.out.2.2.2.symm
  obtain ⟨V, hVV⟩ : ∃ V, V = valText fTx y := ⟨_, rfl⟩
  have hT : stt.buf = esc (tOf sM) name.data.toList ++ ([44] ++ esc (tOf sK) key.data.toList ++ [61] ++ esc (tOf sV) value.data.toList) ++ ([32] ++ esc (tOf sK) field.data.toList ++ [61] ++ V) ++ ([32] ++ Lib.itoa (n.tdiv (ticks Q)) ++ [10]) := by rw [ht3, hVV]; rfl
  obtain ⟨T, hTT⟩ : ∃ T, T = stt.buf := ⟨_, rfl⟩
  rw [← hTT] at hT
  have hE := fun ww hg => text_encode (B0 := B0) (ea := ea) hV name key value field k s vn u f x n (Q : Int) hnice stt ht1 ht2 ww hg
  rw [← hTT] at hE
  unfold row5 at hE
  have HE := Lib.hid hE
  have HI2 := Lib.hid hi2
  have HT := Lib.hid hT
  have HVL := Lib.hid (show V.length ≤ 3000000 by rw [hVV]; exact hvl)
  rw [← hVV] at HI2
  have HI2 := Lib.hid (show ∀ w, Gv B0 ea w → Calls Tryz.prog 18 #[.string ⟨#[]⟩, .agg #[.int .i64 k, .string s, .int .i64 vn, .int .u64 (u : Int), .float .f64 f, .bool x]] w (fun e w' => e = .returned (.tuple #[.string ⟨V.toArray⟩, .bool true]) ∧ Fr [] w w') from HI2.out)
  clear hE hi2 hT hTT hVV hnice ht1 ht2 ht3 hy hty hok hfin hys hvl
  obtain ⟨z0, z1, z2, z3, z4, z5⟩ := box6 HR3.out
  have hp2 := precNanos_any Q hQ3
  obtain ⟨tk, htk⟩ : ∃ tk, tk = ticks Q := ⟨_, rfl⟩
  have htp : tk > 0 := by rw [htk]; exact ticks_pos Q
  rw [← htk] at HT hp2
  have HP2 := Lib.hid hp2
  have hne : ¬ tk = 0 := by omega
  have htd : decide (tk < 1) = false := decide_eq_false (by omega)
  have hbd : wrap64 (n.tdiv tk) = n.tdiv tk := tdiv_wrap n tk n0 n1 htp
  have hbd2 : IntKind.i64.wrap (n.tdiv tk) = n.tdiv tk := by
    have h := hbd
    unfold wrap64 at h
    rw [IntKind.wrap_i64]
    exact h
  have hdr := tdiv_in n tk n0 n1 htp
  obtain ⟨D, hD⟩ : ∃ D, D = n.tdiv tk := ⟨_, rfl⟩
  have hI := fun w (hG : Gv B0 ea w) => Tryz.strconv_FormatInt_10 (n.tdiv tk) hdr.1 hdr.2 w hG.pow
  have HX := Lib.hid (fun (q : Nat) (hq : q ≤ 3) (s : ByteArray) (hs : s.size ≤ 2000) w => implEscape_any q hq s w (by omega))
  have hx0 := fun w => HX.out 0 (by decide) name (by have := HSUM.out; omega) w
  have hx1 := fun w => HX.out 1 (by decide) key (by have := HSUM.out; omega) w
  have hx2 := fun w => HX.out 2 (by decide) value (by have := HSUM.out; omega) w
  have hx3 := fun w => HX.out 3 (by decide) field (by have := HSUM.out; omega) w
  have l0 : (esc (tOf (sOf 0)) name.data.toList).length ≤ 100000 := esc_small _ _ (by have := HSUM.out; omega)
  have l1 : (esc (tOf (sOf 1)) key.data.toList).length ≤ 100000 := esc_small _ _ (by have := HSUM.out; omega)
  have l2 : (esc (tOf (sOf 2)) value.data.toList).length ≤ 100000 := esc_small _ _ (by have := HSUM.out; omega)
  have l3 : (esc (tOf (sOf 3)) field.data.toList).length ≤ 100000 := esc_small _ _ (by have := HSUM.out; omega)
  have l4 : (Lib.itoa (n.tdiv tk)).length ≤ 30 := by have := Lib.itoa_length_le _ hdr.1 hdr.2; omega
  have l5 : V.length ≤ 3000000 := HVL.out
  have hT0 : T = esc (tOf (sOf 0)) name.data.toList ++ ([44] ++ esc (tOf (sOf 1)) key.data.toList ++ [61] ++ esc (tOf (sOf 2)) value.data.toList) ++ ([32] ++ esc (tOf (sOf 3)) field.data.toList ++ [61] ++ V) ++ ([32] ++ Lib.itoa (n.tdiv tk) ++ [10]) := HT.out
  obtain ⟨A0, hA0⟩ : ∃ A, A = esc (tOf (sOf 0)) name.data.toList := ⟨_, rfl⟩
  obtain ⟨A1, hA1⟩ : ∃ A, A = esc (tOf (sOf 1)) key.data.toList := ⟨_, rfl⟩
  obtain ⟨A2, hA2⟩ : ∃ A, A = esc (tOf (sOf 2)) value.data.toList := ⟨_, rfl⟩
  obtain ⟨A3, hA3⟩ : ∃ A, A = esc (tOf (sOf 3)) field.data.toList := ⟨_, rfl⟩
  obtain ⟨A4, hA4⟩ : ∃ A, A = Lib.itoa (n.tdiv tk) := ⟨_, rfl⟩
  rw [← hA0] at l0 hx0 hT0
  rw [← hA1] at l1 hx1 hT0
  rw [← hA2] at l2 hx2 hT0
  rw [← hA3] at l3 hx3 hT0
  rw [← hA4] at l4 hI hT0
  have HI := Lib.hid hI
  have hs1 := add_small A0 [44] (by omega) (by decide)
  have hs2 := add_small (A0 ++ [44]) A1 (by simp only [List.length_append, List.length_cons, List.length_nil]; omega) (by omega)
  have hs3 := add_small (A0 ++ [44] ++ A1) [61] (by simp only [List.length_append, List.length_cons, List.length_nil]; omega) (by decide)
  have hs4 := add_small (A0 ++ [44] ++ A1 ++ [61]) A2 (by simp only [List.length_append, List.length_cons, List.length_nil]; omega) (by omega)
  have hs5 := add_small (A0 ++ [44] ++ A1 ++ [61] ++ A2) [32] (by simp only [List.length_append, List.length_cons, List.length_nil]; omega) (by decide)
  have hs6 := add_small (A0 ++ [44] ++ A1 ++ [61] ++ A2 ++ [32]) A3 (by simp only [List.length_append, List.length_cons, List.length_nil]; omega) (by omega)
  have hs7 := add_small (A0 ++ [44] ++ A1 ++ [61] ++ A2 ++ [32] ++ A3) [61] (by simp only [List.length_append, List.length_cons, List.length_nil]; omega) (by decide)
  have hs8 := add_small (A0 ++ [44] ++ A1 ++ [61] ++ A2 ++ [32] ++ A3 ++ [61]) V (by simp only [List.length_append, List.length_cons, List.length_nil]; omega) (by omega)
  have hs9 := add_small (A0 ++ [44] ++ A1 ++ [61] ++ A2 ++ [32] ++ A3 ++ [61] ++ V) [32] (by simp only [List.length_append, List.length_cons, List.length_nil]; omega) (by decide)
  have hs10 := add_small (A0 ++ [44] ++ A1 ++ [61] ++ A2 ++ [32] ++ A3 ++ [61] ++ V ++ [32]) A4 (by simp only [List.length_append, List.length_cons, List.length_nil]; omega) (by omega)
  have hs11 := add_small (A0 ++ [44] ++ A1 ++ [61] ++ A2 ++ [32] ++ A3 ++ [61] ++ V ++ [32] ++ A4) [10] (by simp only [List.length_append, List.length_cons, List.length_nil]; omega) (by decide)
  have hT1 : A0 ++ [44] ++ A1 ++ [61] ++ A2 ++ [32] ++ A3 ++ [61] ++ V ++ [32] ++ A4 ++ [10] = T := by rw [hT0]; simp only [List.append_assoc]
  rw [hT1] at hs11
  obtain ⟨B0', hB0⟩ : ∃ B : ByteArray, B = ⟨A0.toArray⟩ := ⟨_, rfl⟩
  obtain ⟨B1', hB1⟩ : ∃ B : ByteArray, B = ⟨A1.toArray⟩ := ⟨_, rfl⟩
  obtain ⟨B2', hB2⟩ : ∃ B : ByteArray, B = ⟨A2.toArray⟩ := ⟨_, rfl⟩
  obtain ⟨B3', hB3⟩ : ∃ B : ByteArray, B = ⟨A3.toArray⟩ := ⟨_, rfl⟩
  obtain ⟨B4', hB4⟩ : ∃ B : ByteArray, B = ⟨A4.toArray⟩ := ⟨_, rfl⟩
  obtain ⟨C1, hC1⟩ : ∃ B : ByteArray, B = ⟨(A0 ++ [44]).toArray⟩ := ⟨_, rfl⟩
  obtain ⟨C2, hC2⟩ : ∃ B : ByteArray, B = ⟨(A0 ++ [44] ++ A1).toArray⟩ := ⟨_, rfl⟩
  obtain ⟨C3, hC3⟩ : ∃ B : ByteArray, B = ⟨(A0 ++ [44] ++ A1 ++ [61]).toArray⟩ := ⟨_, rfl⟩
  obtain ⟨C4, hC4⟩ : ∃ B : ByteArray, B = ⟨(A0 ++ [44] ++ A1 ++ [61] ++ A2).toArray⟩ := ⟨_, rfl⟩
  obtain ⟨C5, hC5⟩ : ∃ B : ByteArray, B = ⟨(A0 ++ [44] ++ A1 ++ [61] ++ A2 ++ [32]).toArray⟩ := ⟨_, rfl⟩
  obtain ⟨C6, hC6⟩ : ∃ B : ByteArray, B = ⟨(A0 ++ [44] ++ A1 ++ [61] ++ A2 ++ [32] ++ A3).toArray⟩ := ⟨_, rfl⟩
  obtain ⟨C7, hC7⟩ : ∃ B : ByteArray, B = ⟨(A0 ++ [44] ++ A1 ++ [61] ++ A2 ++ [32] ++ A3 ++ [61]).toArray⟩ := ⟨_, rfl⟩
  obtain ⟨C8, hC8⟩ : ∃ B : ByteArray, B = ⟨(A0 ++ [44] ++ A1 ++ [61] ++ A2 ++ [32] ++ A3 ++ [61] ++ V).toArray⟩ := ⟨_, rfl⟩
  obtain ⟨C9, hC9⟩ : ∃ B : ByteArray, B = ⟨(A0 ++ [44] ++ A1 ++ [61] ++ A2 ++ [32] ++ A3 ++ [61] ++ V ++ [32]).toArray⟩ := ⟨_, rfl⟩
  obtain ⟨C10, hC10⟩ : ∃ B : ByteArray, B = ⟨(A0 ++ [44] ++ A1 ++ [61] ++ A2 ++ [32] ++ A3 ++ [61] ++ V ++ [32] ++ A4).toArray⟩ := ⟨_, rfl⟩
  obtain ⟨TB, hTB⟩ : ∃ B : ByteArray, B = ⟨T.toArray⟩ := ⟨_, rfl⟩
  obtain ⟨VB, hVB⟩ : ∃ B : ByteArray, B = ⟨V.toArray⟩ := ⟨_, rfl⟩
  rw [← hB0, ← hC1] at hs1
  rw [← hC1, ← hB1, ← hC2] at hs2
  rw [← hC2, ← hC3] at hs3
  rw [← hC3, ← hB2, ← hC4] at hs4
  rw [← hC4, ← hC5] at hs5
  rw [← hC5, ← hB3, ← hC6] at hs6
  rw [← hC6, ← hC7] at hs7
  rw [← hC7, ← hVB, ← hC8] at hs8
  rw [← hC8, ← hC9] at hs9
  rw [← hC9, ← hB4, ← hC10] at hs10
  rw [← hC10, ← hTB] at hs11
  rw [← hB0] at hx0
  rw [← hB1] at hx1
  rw [← hB2] at hx2
  rw [← hB3] at hx3
  rw [← hB4] at HI
  rw [← hTB] at HE
  rw [← hVB] at HI2
  have HX0 := Lib.hid hx0
  have HX1 := Lib.hid hx1
  have HX2 := Lib.hid hx2
  have HX3 := Lib.hid hx3
  clear hp2 htk hI hx0 hx1 hx2 hx3 hdr hD l0 l1 l2 l3 l4 l5 hT0 hT1 hA0 hA1 hA2 hA3 hA4 hB0 hB1 hB2 hB3 hB4 hC1 hC2 hC3 hC4 hC5 hC6 hC7 hC8 hC9 hC10 hTB hVB HT HVL
  have HVG := Lib.hid (HG.out.fr HF3.out (by simp))
  go_upto_region 6 with (go_at_call 23; refine (HE.out w3 HVG.out).mono ?_; rintro e w6 ⟨g6, cap6, rfl, hf6, e6⟩; have HF6 := Lib.hid hf6; have HR6 := Lib.hid (hf6.blk HR3.out List.not_mem_nil); clear hf6)
  obtain ⟨v0, v1, v2, v3, v4, v5⟩ := box6 HR6.out
  clear z0 z1 z2 z3 z4 z5
  have HV6 := Lib.hid (HVG.out.fr HF6.out (by simp))
  go_upto_region 7 with (go_at_call 18; refine (HI2.out w6 HV6.out.toGv).mono ?_; rintro e w7 ⟨rfl, hf7⟩; have e7 := hf7.cell e6 (by simp); have HF7 := Lib.hid ((HF3.out.trans HF6.out).trans hf7); have HV7 := Lib.hid (HV6.out.fr hf7 (by simp)); clear hf7)
  clear v0 v1 v2 v3 v4 v5
  go_upto_region 8 with (go_at_call 30; refine (HP2.out w7).mono ?_; rintro e w8 ⟨rfl, hf8⟩; have e8 := hf8.cell e7 (by simp); have HF8 := Lib.hid (HF7.out.trans hf8); have HV8 := Lib.hid (HV7.out.fr hf8 (by simp)); clear hf8)
  go_upto_region 10 with fail
  have HFc := Lib.hid HF8.out.drew
  go_region_with (first
    | (go_at_call_of 31 name; refine (HX0.out _).mono ?_; rintro e w11 ⟨rfl, hf11⟩; have HFn := Lib.hid (HFc.out.trans hf11); clear HFc hf11; have HFc := HFn; clear HFn)
    | (go_at_call_of 31 key; refine (HX1.out _).mono ?_; rintro e w12 ⟨rfl, hf12⟩; have HFn := Lib.hid (HFc.out.trans hf12); clear HFc hf12; have HFc := HFn; clear HFn)
    | (go_at_call_of 31 value; refine (HX2.out _).mono ?_; rintro e w13 ⟨rfl, hf13⟩; have HFn := Lib.hid (HFc.out.trans hf13); clear HFc hf13; have HFc := HFn; clear HFn)
    | (go_at_call_of 31 field; refine (HX3.out _).mono ?_; rintro e w14 ⟨rfl, hf14⟩; have HFn := Lib.hid (HFc.out.trans hf14); clear HFc hf14; have HFc := HFn; clear HFn)
    | (go_at_call 32; refine (HI.out _ (HG.out.fr HFc.out (by simp)).toGv).mono ?_; rintro e w15 ⟨rfl, hx15⟩; have hf15 := fr_of_grow hx15; have HFn := Lib.hid (HFc.out.trans hf15); clear HFc hf15 hx15; have HFc := HFn; clear HFn))
  all_goals
    go_wp2_with fail
    go_ret
    exact ⟨rfl, HFc.out⟩
end Go.Proofs.YtaaogjhaokaggaaGreatDoor
