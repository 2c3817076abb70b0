import Derived.Test.YtaaogjhaokaggaaGreatDoorEqK
namespace Go.Proofs.YtaaogjhaokaggaaGreatDoor
open Go.RowKit

/-- Is a float 0? -/
def fz (f : Nat) : Bool := FloatKind.f64.format.order f 0 == some .eq
theorem fz_eq {f : Nat} (h : finOk f) : fz f = (f % 9223372036854775808 == 0) := by
  unfold fz
  rw [ord_eq h.1 (by decide) ((fin64_iff f).1 h.2) (by decide)]
  rw [Bool.eq_iff_iff]
  simp
  omega
theorem vzero_of (d d' : VD) (hf : d.f < 18446744073709551616) (hf' : d'.f < 18446744073709551616) (hc : d.can = true) (hc' : d'.can = true) {x y : Val} (hx : d.made = some x) (hy : d'.made = some y) :
    vzero x y = (d.kind == 4 && d'.kind == 4 && fz d.f && fz d'.f) := by
  have key : ∀ d : VD, d.f < 18446744073709551616 → d.can = true → ∀ x, d.made = some x → (d.kind = 4 ∧ x = .flt d.f ∧ finOk d.f) ∨ (d.kind ≠ 4 ∧ ∀ n, x ≠ .flt n) := by
    intro d hf hc x hx
    by_cases h4 : d.kind = 4
    · unfold VD.can at hc
      rw [if_neg (by omega), if_pos h4] at hc
      unfold VD.made at hx
      rw [if_neg (by omega), if_neg (by omega), if_neg (by omega), if_pos h4, if_pos hc] at hx
      exact .inl ⟨h4, (Option.some.inj hx).symm, hf, hc⟩
    · refine .inr ⟨h4, fun n hn => ?_⟩
      subst hn
      unfold VD.made at hx
      rw [if_neg h4] at hx
      repeat' split at hx
      all_goals cases hx
  rcases key d hf hc x hx with ⟨k4, rfl, fo⟩ | ⟨k4, hn⟩
  · rcases key d' hf' hc' y hy with ⟨k4', rfl, fo'⟩ | ⟨k4', hn'⟩
    · rw [k4, k4', fz_eq fo, fz_eq fo']
      rfl
    · rw [show (d'.kind == 4) = false from by rw [beq_eq_false_iff_ne]; exact k4', Bool.and_false, Bool.false_and, Bool.false_and]
      cases y with
      | flt n => exact absurd rfl (hn' n)
      | _ => rfl
  · rw [show (d.kind == 4) = false from by rw [beq_eq_false_iff_ne]; exact k4, Bool.false_and, Bool.false_and, Bool.false_and]
    cases x with
    | flt n => exact absurd rfl (hn n)
    | _ => rfl
theorem made_fin (d : VD) (hf : d.f < 18446744073709551616) {y : Val} (hy : d.made = some y) : y.fin := by
  cases y with
  | flt m =>
    unfold VD.made at hy
    repeat' split at hy
    all_goals first | (cases hy; exact ⟨hf, by assumption⟩) | cases hy
  | _ => trivial
theorem made_len (d : VD) (hs : d.s.size ≤ 1000000) {y : Val} (hy : d.made = some y) : ∀ q, y = .str q → q.length ≤ 1000000 := by
  intro q hq
  subst hq
  unfold VD.made at hy
  repeat' split at hy
  all_goals first | (cases hy; simp; omega) | cases hy
theorem ba_beq (a b : List UInt8) : ((⟨a.toArray⟩ : ByteArray).toList == (⟨b.toArray⟩ : ByteArray).toList) = (a == b) := by
  rw [ByteArray.toList_eq, ByteArray.toList_eq]
theorem fin_flt {y : Val} (h : y.fin) : ∀ m, y = .flt m → finOk m := by
  intro m hm
  subst hm
  exact h

set_option maxRecDepth 100000 in
set_option maxHeartbeats 8000000 in
theorem equalText_walk (hV : ValidSaid) {ea : Addr} {B0 : Nat} (d d' : VD) (hn0 : -9223372036854775808 ≤ d.n) (hn1 : d.n ≤ 9223372036854775807) (hu : d.u < 18446744073709551616) (hf : d.f < 18446744073709551616) (hn0' : -9223372036854775808 ≤ d'.n) (hn1' : d'.n ≤ 9223372036854775807) (hu' : d'.u < 18446744073709551616) (hf' : d'.f < 18446744073709551616) (w : World) (hG : Gv B0 ea w) :
    Calls Tryz.prog 3 #[.agg d.cells, .agg d'.cells] w fun e w' => e = .returned (.bool true) ∧ Fr [] w w' := by
  have hz := fun w => zzFits3_any d w
  have hz' := fun w => zzFits3_any d' w
  have hk := fun g w hg => lKinds_two d d' g w hg
  obtain ⟨Z, hZ⟩ : ∃ Z, Z = decide (d.s.size ≤ 2147483647) := ⟨_, rfl⟩
  obtain ⟨Z', hZ'⟩ : ∃ Z, Z = decide (d'.s.size ≤ 2147483647) := ⟨_, rfl⟩
  obtain ⟨K, hK⟩ : ∃ K, K = (d.kinds && d'.kinds) := ⟨_, rfl⟩
  rw [← hZ] at hz
  rw [← hZ'] at hz'
  rw [← hK] at hk
  -- what holds where all may be
  have hall : K = true → d.s.size ≤ 800 ∧ d'.s.size ≤ 800 := by
    intro h
    rw [hK, Bool.and_eq_true] at h
    unfold VD.kinds at h
    exact ⟨(of_decide_eq_true h.1).2.2, (of_decide_eq_true h.2).2.2⟩
  have hc : K = true → (∀ w, Calls Tryz.prog 16 #[.agg d.cells] w fun e w' => e = .returned (.bool d.can) ∧ Fr [] w w') ∧ (∀ w, Calls Tryz.prog 16 #[.agg d'.cells] w fun e w' => e = .returned (.bool d'.can) ∧ Fr [] w w') := by
    intro h
    obtain ⟨a, b⟩ := hall h
    exact ⟨fun w => canBe_any d (by omega) w, fun w => canBe_any d' (by omega) w⟩
  obtain ⟨C, hC⟩ : ∃ C, C = d.can := ⟨_, rfl⟩
  obtain ⟨C', hC'⟩ : ∃ C, C = d'.can := ⟨_, rfl⟩
  have hmain : K = true → C = true → C' = true → ∃ (R Q : Bool) (S T : ByteArray), ((S.toList == T.toList) = Q) ∧ (R = (Q || (d.kind == 4 && d'.kind == 4 && fz d.f && fz d'.f))) ∧
      (∀ w, Gv B0 ea w → Calls Tryz.prog 17 #[.agg d.cells, .agg d'.cells] w fun e w' => e = .returned (.tuple #[.bool R, .bool true]) ∧ Fr [] w w') ∧
      (∀ w, Gv B0 ea w → Calls Tryz.prog 17 #[.agg d'.cells, .agg d.cells] w fun e w' => e = .returned (.tuple #[.bool R, .bool true]) ∧ Fr [] w w') ∧
      (∀ w, Gv B0 ea w → Calls Tryz.prog 17 #[.agg d.cells, .agg d.cells] w fun e w' => e = .returned (.tuple #[.bool true, .bool true]) ∧ Fr [] w w') ∧
      (∀ w, Gv B0 ea w → Calls Tryz.prog 18 #[.string ⟨#[]⟩, .agg d.cells] w fun e w' => e = .returned (.tuple #[.string S, .bool true]) ∧ Fr [] w w') ∧
      (∀ w, Gv B0 ea w → Calls Tryz.prog 18 #[.string ⟨#[]⟩, .agg d'.cells] w fun e w' => e = .returned (.tuple #[.string T, .bool true]) ∧ Fr [] w w') := by
    intro h1 h2 h3
    obtain ⟨a, b⟩ := hall h1
    have hok : d.Ok := ⟨by omega, hn0, hn1, hu⟩
    have hok' : d'.Ok := ⟨by omega, hn0', hn1', hu'⟩
    obtain ⟨x, hx, _⟩ := can_made d (hC.symm.trans h2)
    obtain ⟨y, hy, _⟩ := can_made d' (hC'.symm.trans h3)
    have fx := made_fin d hf hx
    have fy := made_fin d' hf' hy
    refine ⟨veq x y, valText fTx x == valText fTx y, ⟨(valText fTx x).toArray⟩, ⟨(valText fTx y).toArray⟩, ?_, ?_, ?_, ?_, ?_, ?_, ?_⟩
    · exact ba_beq _ _
    · rw [← vzero_of d d' hf hf' (hC.symm.trans h2) (hC'.symm.trans h3) hx hy]
      exact veq_text x y fx fy
    · exact fun w hG => implEqual_any hV d d' hok hok' x y hx hy fx fy w hG
    · rw [veq_symm]
      exact fun w hG => implEqual_any hV d' d hok' hok y x hy hx fy fx w hG
    · have := fun w hG => implEqual_any hV (ea := ea) (B0 := B0) d d hok hok x x hx hx fx fx w hG
      rw [veq_self] at this
      exact this
    · exact fun w hG => implText_any hV d hok x hx (fin_flt fx) (made_len d (by omega) hx) ⟨#[]⟩ (by decide) w hG
    · exact fun w hG => implText_any hV d' hok' y hy (fin_flt fy) (made_len d' (by omega) hy) ⟨#[]⟩ (by decide) w hG
  rw [← hC, ← hC'] at hc
  clear hZ hZ' hK hall hC hC' hn0 hn1 hu hf hn0' hn1' hu' hf'
  have hsf : ∀ (a : Addr) (k : FloatKind) (b : Nat) (m : Mode) (w : World), (store a (.float k b) m).run Tryz.prog w = stored Tryz.prog w a (.float k b) m := fun a k b m w => run_store Tryz.prog w a _ m rfl
  obtain ⟨k, s, n, u, f, x⟩ := d
  obtain ⟨k', s', n', u', f', x'⟩ := d'
  simp only [VD.cells] at *
  have hk2 : ∀ (g : Nat) (w : World), w.heap[g]? = some (.cells #[.int .i64 k, .string s, .int .i64 n, .int .u64 u, .float .f64 f, .bool x, .int .i64 k', .string s', .int .i64 n', .int .u64 u', .float .f64 f', .bool x'] 25 (0, 0)) → Calls Tryz.prog 15 #[.slice (some ⟨g, 0, none⟩) 2 2] w fun e w' => e = .returned (.bool K) ∧ Fr [] w w' := fun g w hg => hk g w hg
  have HZ := Lib.hid hz
  have HZ' := Lib.hid hz'
  have HK := Lib.hid hk2
  have HC := Lib.hid hc
  have HM := Lib.hid hmain
  clear hz hz' hk hk2 hc hmain
  obtain ⟨w0, hw0⟩ : ∃ w0, w0 = (w.alloc (.cells #[.int .i64 k, .string s, .int .i64 n, .int .u64 u, .float .f64 f, .bool x] 25)).alloc (.cells #[.int .i64 k', .string s', .int .i64 n', .int .u64 u', .float .f64 f', .bool x'] 25) := ⟨_, rfl⟩
  have hf0 : Fr [] w w0 := by rw [hw0]; exact ((Fr.refl [] w).alloc _).alloc _
  have hb0 : w0.heap[w.heap.size]? = some (.cells #[.int .i64 k, .string s, .int .i64 n, .int .u64 u, .float .f64 f, .bool x] 25 (0, 0)) := by
    rw [hw0]
    exact ((Fr.refl [] _).alloc _).blk (heap_alloc_new w _) List.not_mem_nil
  have hb1 : w0.heap[w.heap.size + 1]? = some (.cells #[.int .i64 k', .string s', .int .i64 n', .int .u64 u', .float .f64 f', .bool x'] 25 (0, 0)) := by
    rw [hw0]
    have := heap_alloc_new (w.alloc (.cells #[.int .i64 k, .string s, .int .i64 n, .int .u64 u, .float .f64 f, .bool x] 25)) (.cells #[.int .i64 k', .string s', .int .i64 n', .int .u64 u', .float .f64 f', .bool x'] 25)
    simpa using this
  have HF0 := Lib.hid hf0
  have HR0 := Lib.hid hb0
  have HS0 := Lib.hid hb1
  have HG := Lib.hid hG
  have HW0 := Lib.hid hw0
  clear hf0 hb0 hb1 hw0 hG
  cases Z with
  | false =>
    go_enter Tryz.func3, Tryz.ntmps3
    go_upto_region 1 with fail
    rw [← HW0.out]
    have d00 : w0.cell? ⟨w.heap.size, 0, none⟩ = _ := cell_of_row w0 w.heap.size 0 _ 25 _ HR0.out
    have d01 : w0.cell? ⟨w.heap.size, 1, none⟩ = _ := cell_of_row w0 w.heap.size 1 _ 25 _ HR0.out
    have d02 : w0.cell? ⟨w.heap.size, 2, none⟩ = _ := cell_of_row w0 w.heap.size 2 _ 25 _ HR0.out
    have d03 : w0.cell? ⟨w.heap.size, 3, none⟩ = _ := cell_of_row w0 w.heap.size 3 _ 25 _ HR0.out
    have d04 : w0.cell? ⟨w.heap.size, 4, none⟩ = _ := cell_of_row w0 w.heap.size 4 _ 25 _ HR0.out
    have d05 : w0.cell? ⟨w.heap.size, 5, none⟩ = _ := cell_of_row w0 w.heap.size 5 _ 25 _ HR0.out
    have d00q : w0.cell? ⟨w.heap.size + 1, 0, none⟩ = _ := cell_of_row w0 (w.heap.size + 1) 0 _ 25 _ HS0.out
    have d01q : w0.cell? ⟨w.heap.size + 1, 1, none⟩ = _ := cell_of_row w0 (w.heap.size + 1) 1 _ 25 _ HS0.out
    have d02q : w0.cell? ⟨w.heap.size + 1, 2, none⟩ = _ := cell_of_row w0 (w.heap.size + 1) 2 _ 25 _ HS0.out
    have d03q : w0.cell? ⟨w.heap.size + 1, 3, none⟩ = _ := cell_of_row w0 (w.heap.size + 1) 3 _ 25 _ HS0.out
    have d04q : w0.cell? ⟨w.heap.size + 1, 4, none⟩ = _ := cell_of_row w0 (w.heap.size + 1) 4 _ 25 _ HS0.out
    have d05q : w0.cell? ⟨w.heap.size + 1, 5, none⟩ = _ := cell_of_row w0 (w.heap.size + 1) 5 _ 25 _ HS0.out
    go_wp2_with (first
      | (go_at_call_of 14 (Value.agg #[.int .i64 k, .string s, .int .i64 n, .int .u64 u, .float .f64 f, .bool x]); refine (HZ.out _).mono ?_; rintro e w1 ⟨rfl, hf1⟩; have HF1 := Lib.hid (HF0.out.trans (hf1)); have HR1 := Lib.hid ((hf1).blk HR0.out List.not_mem_nil); have HS1 := Lib.hid ((hf1).blk HS0.out List.not_mem_nil); have d10 : w1.cell? ⟨w.heap.size, 0, none⟩ = _ := cell_of_row w1 w.heap.size 0 _ 25 _ HR1.out; have d11 : w1.cell? ⟨w.heap.size, 1, none⟩ = _ := cell_of_row w1 w.heap.size 1 _ 25 _ HR1.out; have d12 : w1.cell? ⟨w.heap.size, 2, none⟩ = _ := cell_of_row w1 w.heap.size 2 _ 25 _ HR1.out; have d13 : w1.cell? ⟨w.heap.size, 3, none⟩ = _ := cell_of_row w1 w.heap.size 3 _ 25 _ HR1.out; have d14 : w1.cell? ⟨w.heap.size, 4, none⟩ = _ := cell_of_row w1 w.heap.size 4 _ 25 _ HR1.out; have d15 : w1.cell? ⟨w.heap.size, 5, none⟩ = _ := cell_of_row w1 w.heap.size 5 _ 25 _ HR1.out; have d10q : w1.cell? ⟨w.heap.size + 1, 0, none⟩ = _ := cell_of_row w1 (w.heap.size + 1) 0 _ 25 _ HS1.out; have d11q : w1.cell? ⟨w.heap.size + 1, 1, none⟩ = _ := cell_of_row w1 (w.heap.size + 1) 1 _ 25 _ HS1.out; have d12q : w1.cell? ⟨w.heap.size + 1, 2, none⟩ = _ := cell_of_row w1 (w.heap.size + 1) 2 _ 25 _ HS1.out; have d13q : w1.cell? ⟨w.heap.size + 1, 3, none⟩ = _ := cell_of_row w1 (w.heap.size + 1) 3 _ 25 _ HS1.out; have d14q : w1.cell? ⟨w.heap.size + 1, 4, none⟩ = _ := cell_of_row w1 (w.heap.size + 1) 4 _ 25 _ HS1.out; have d15q : w1.cell? ⟨w.heap.size + 1, 5, none⟩ = _ := cell_of_row w1 (w.heap.size + 1) 5 _ 25 _ HS1.out; clear hf1))
    go_ret
    exact ⟨rfl, HF1.out⟩
  | true =>
  cases Z' with
  | false =>
    go_enter Tryz.func3, Tryz.ntmps3
    go_upto_region 1 with fail
    rw [← HW0.out]
    have d00 : w0.cell? ⟨w.heap.size, 0, none⟩ = _ := cell_of_row w0 w.heap.size 0 _ 25 _ HR0.out
    have d01 : w0.cell? ⟨w.heap.size, 1, none⟩ = _ := cell_of_row w0 w.heap.size 1 _ 25 _ HR0.out
    have d02 : w0.cell? ⟨w.heap.size, 2, none⟩ = _ := cell_of_row w0 w.heap.size 2 _ 25 _ HR0.out
    have d03 : w0.cell? ⟨w.heap.size, 3, none⟩ = _ := cell_of_row w0 w.heap.size 3 _ 25 _ HR0.out
    have d04 : w0.cell? ⟨w.heap.size, 4, none⟩ = _ := cell_of_row w0 w.heap.size 4 _ 25 _ HR0.out
    have d05 : w0.cell? ⟨w.heap.size, 5, none⟩ = _ := cell_of_row w0 w.heap.size 5 _ 25 _ HR0.out
    have d00q : w0.cell? ⟨w.heap.size + 1, 0, none⟩ = _ := cell_of_row w0 (w.heap.size + 1) 0 _ 25 _ HS0.out
    have d01q : w0.cell? ⟨w.heap.size + 1, 1, none⟩ = _ := cell_of_row w0 (w.heap.size + 1) 1 _ 25 _ HS0.out
    have d02q : w0.cell? ⟨w.heap.size + 1, 2, none⟩ = _ := cell_of_row w0 (w.heap.size + 1) 2 _ 25 _ HS0.out
    have d03q : w0.cell? ⟨w.heap.size + 1, 3, none⟩ = _ := cell_of_row w0 (w.heap.size + 1) 3 _ 25 _ HS0.out
    have d04q : w0.cell? ⟨w.heap.size + 1, 4, none⟩ = _ := cell_of_row w0 (w.heap.size + 1) 4 _ 25 _ HS0.out
    have d05q : w0.cell? ⟨w.heap.size + 1, 5, none⟩ = _ := cell_of_row w0 (w.heap.size + 1) 5 _ 25 _ HS0.out
    go_wp2_with (first
      | (go_at_call_of 14 (Value.agg #[.int .i64 k, .string s, .int .i64 n, .int .u64 u, .float .f64 f, .bool x]); refine (HZ.out _).mono ?_; rintro e w1 ⟨rfl, hf1⟩; have HF1 := Lib.hid (HF0.out.trans (hf1)); have HR1 := Lib.hid ((hf1).blk HR0.out List.not_mem_nil); have HS1 := Lib.hid ((hf1).blk HS0.out List.not_mem_nil); have d10 : w1.cell? ⟨w.heap.size, 0, none⟩ = _ := cell_of_row w1 w.heap.size 0 _ 25 _ HR1.out; have d11 : w1.cell? ⟨w.heap.size, 1, none⟩ = _ := cell_of_row w1 w.heap.size 1 _ 25 _ HR1.out; have d12 : w1.cell? ⟨w.heap.size, 2, none⟩ = _ := cell_of_row w1 w.heap.size 2 _ 25 _ HR1.out; have d13 : w1.cell? ⟨w.heap.size, 3, none⟩ = _ := cell_of_row w1 w.heap.size 3 _ 25 _ HR1.out; have d14 : w1.cell? ⟨w.heap.size, 4, none⟩ = _ := cell_of_row w1 w.heap.size 4 _ 25 _ HR1.out; have d15 : w1.cell? ⟨w.heap.size, 5, none⟩ = _ := cell_of_row w1 w.heap.size 5 _ 25 _ HR1.out; have d10q : w1.cell? ⟨w.heap.size + 1, 0, none⟩ = _ := cell_of_row w1 (w.heap.size + 1) 0 _ 25 _ HS1.out; have d11q : w1.cell? ⟨w.heap.size + 1, 1, none⟩ = _ := cell_of_row w1 (w.heap.size + 1) 1 _ 25 _ HS1.out; have d12q : w1.cell? ⟨w.heap.size + 1, 2, none⟩ = _ := cell_of_row w1 (w.heap.size + 1) 2 _ 25 _ HS1.out; have d13q : w1.cell? ⟨w.heap.size + 1, 3, none⟩ = _ := cell_of_row w1 (w.heap.size + 1) 3 _ 25 _ HS1.out; have d14q : w1.cell? ⟨w.heap.size + 1, 4, none⟩ = _ := cell_of_row w1 (w.heap.size + 1) 4 _ 25 _ HS1.out; have d15q : w1.cell? ⟨w.heap.size + 1, 5, none⟩ = _ := cell_of_row w1 (w.heap.size + 1) 5 _ 25 _ HS1.out; clear hf1)
      | (go_at_call 14; refine (HZ'.out _).mono ?_; rintro e w2 ⟨rfl, hf2⟩; have HF2 := Lib.hid (HF1.out.trans (hf2)); have HR2 := Lib.hid ((hf2).blk HR1.out List.not_mem_nil); have HS2 := Lib.hid ((hf2).blk HS1.out List.not_mem_nil); have d20 : w2.cell? ⟨w.heap.size, 0, none⟩ = _ := cell_of_row w2 w.heap.size 0 _ 25 _ HR2.out; have d21 : w2.cell? ⟨w.heap.size, 1, none⟩ = _ := cell_of_row w2 w.heap.size 1 _ 25 _ HR2.out; have d22 : w2.cell? ⟨w.heap.size, 2, none⟩ = _ := cell_of_row w2 w.heap.size 2 _ 25 _ HR2.out; have d23 : w2.cell? ⟨w.heap.size, 3, none⟩ = _ := cell_of_row w2 w.heap.size 3 _ 25 _ HR2.out; have d24 : w2.cell? ⟨w.heap.size, 4, none⟩ = _ := cell_of_row w2 w.heap.size 4 _ 25 _ HR2.out; have d25 : w2.cell? ⟨w.heap.size, 5, none⟩ = _ := cell_of_row w2 w.heap.size 5 _ 25 _ HR2.out; have d20q : w2.cell? ⟨w.heap.size + 1, 0, none⟩ = _ := cell_of_row w2 (w.heap.size + 1) 0 _ 25 _ HS2.out; have d21q : w2.cell? ⟨w.heap.size + 1, 1, none⟩ = _ := cell_of_row w2 (w.heap.size + 1) 1 _ 25 _ HS2.out; have d22q : w2.cell? ⟨w.heap.size + 1, 2, none⟩ = _ := cell_of_row w2 (w.heap.size + 1) 2 _ 25 _ HS2.out; have d23q : w2.cell? ⟨w.heap.size + 1, 3, none⟩ = _ := cell_of_row w2 (w.heap.size + 1) 3 _ 25 _ HS2.out; have d24q : w2.cell? ⟨w.heap.size + 1, 4, none⟩ = _ := cell_of_row w2 (w.heap.size + 1) 4 _ 25 _ HS2.out; have d25q : w2.cell? ⟨w.heap.size + 1, 5, none⟩ = _ := cell_of_row w2 (w.heap.size + 1) 5 _ 25 _ HS2.out; clear hf2))
    go_ret
    exact ⟨rfl, HF2.out⟩
  | true =>
  cases K with
  | false =>
    go_enter Tryz.func3, Tryz.ntmps3
    go_upto_region 1 with fail
    rw [← HW0.out]
    have d00 : w0.cell? ⟨w.heap.size, 0, none⟩ = _ := cell_of_row w0 w.heap.size 0 _ 25 _ HR0.out
    have d01 : w0.cell? ⟨w.heap.size, 1, none⟩ = _ := cell_of_row w0 w.heap.size 1 _ 25 _ HR0.out
    have d02 : w0.cell? ⟨w.heap.size, 2, none⟩ = _ := cell_of_row w0 w.heap.size 2 _ 25 _ HR0.out
    have d03 : w0.cell? ⟨w.heap.size, 3, none⟩ = _ := cell_of_row w0 w.heap.size 3 _ 25 _ HR0.out
    have d04 : w0.cell? ⟨w.heap.size, 4, none⟩ = _ := cell_of_row w0 w.heap.size 4 _ 25 _ HR0.out
    have d05 : w0.cell? ⟨w.heap.size, 5, none⟩ = _ := cell_of_row w0 w.heap.size 5 _ 25 _ HR0.out
    have d00q : w0.cell? ⟨w.heap.size + 1, 0, none⟩ = _ := cell_of_row w0 (w.heap.size + 1) 0 _ 25 _ HS0.out
    have d01q : w0.cell? ⟨w.heap.size + 1, 1, none⟩ = _ := cell_of_row w0 (w.heap.size + 1) 1 _ 25 _ HS0.out
    have d02q : w0.cell? ⟨w.heap.size + 1, 2, none⟩ = _ := cell_of_row w0 (w.heap.size + 1) 2 _ 25 _ HS0.out
    have d03q : w0.cell? ⟨w.heap.size + 1, 3, none⟩ = _ := cell_of_row w0 (w.heap.size + 1) 3 _ 25 _ HS0.out
    have d04q : w0.cell? ⟨w.heap.size + 1, 4, none⟩ = _ := cell_of_row w0 (w.heap.size + 1) 4 _ 25 _ HS0.out
    have d05q : w0.cell? ⟨w.heap.size + 1, 5, none⟩ = _ := cell_of_row w0 (w.heap.size + 1) 5 _ 25 _ HS0.out
    go_wp2_with (first
      | (go_at_call_of 14 (Value.agg #[.int .i64 k, .string s, .int .i64 n, .int .u64 u, .float .f64 f, .bool x]); refine (HZ.out _).mono ?_; rintro e w1 ⟨rfl, hf1⟩; have HF1 := Lib.hid (HF0.out.trans (hf1)); have HR1 := Lib.hid ((hf1).blk HR0.out List.not_mem_nil); have HS1 := Lib.hid ((hf1).blk HS0.out List.not_mem_nil); have d10 : w1.cell? ⟨w.heap.size, 0, none⟩ = _ := cell_of_row w1 w.heap.size 0 _ 25 _ HR1.out; have d11 : w1.cell? ⟨w.heap.size, 1, none⟩ = _ := cell_of_row w1 w.heap.size 1 _ 25 _ HR1.out; have d12 : w1.cell? ⟨w.heap.size, 2, none⟩ = _ := cell_of_row w1 w.heap.size 2 _ 25 _ HR1.out; have d13 : w1.cell? ⟨w.heap.size, 3, none⟩ = _ := cell_of_row w1 w.heap.size 3 _ 25 _ HR1.out; have d14 : w1.cell? ⟨w.heap.size, 4, none⟩ = _ := cell_of_row w1 w.heap.size 4 _ 25 _ HR1.out; have d15 : w1.cell? ⟨w.heap.size, 5, none⟩ = _ := cell_of_row w1 w.heap.size 5 _ 25 _ HR1.out; have d10q : w1.cell? ⟨w.heap.size + 1, 0, none⟩ = _ := cell_of_row w1 (w.heap.size + 1) 0 _ 25 _ HS1.out; have d11q : w1.cell? ⟨w.heap.size + 1, 1, none⟩ = _ := cell_of_row w1 (w.heap.size + 1) 1 _ 25 _ HS1.out; have d12q : w1.cell? ⟨w.heap.size + 1, 2, none⟩ = _ := cell_of_row w1 (w.heap.size + 1) 2 _ 25 _ HS1.out; have d13q : w1.cell? ⟨w.heap.size + 1, 3, none⟩ = _ := cell_of_row w1 (w.heap.size + 1) 3 _ 25 _ HS1.out; have d14q : w1.cell? ⟨w.heap.size + 1, 4, none⟩ = _ := cell_of_row w1 (w.heap.size + 1) 4 _ 25 _ HS1.out; have d15q : w1.cell? ⟨w.heap.size + 1, 5, none⟩ = _ := cell_of_row w1 (w.heap.size + 1) 5 _ 25 _ HS1.out; clear hf1)
      | (go_at_call 14; refine (HZ'.out _).mono ?_; rintro e w2 ⟨rfl, hf2⟩; have HF2 := Lib.hid (HF1.out.trans (hf2)); have HR2 := Lib.hid ((hf2).blk HR1.out List.not_mem_nil); have HS2 := Lib.hid ((hf2).blk HS1.out List.not_mem_nil); have d20 : w2.cell? ⟨w.heap.size, 0, none⟩ = _ := cell_of_row w2 w.heap.size 0 _ 25 _ HR2.out; have d21 : w2.cell? ⟨w.heap.size, 1, none⟩ = _ := cell_of_row w2 w.heap.size 1 _ 25 _ HR2.out; have d22 : w2.cell? ⟨w.heap.size, 2, none⟩ = _ := cell_of_row w2 w.heap.size 2 _ 25 _ HR2.out; have d23 : w2.cell? ⟨w.heap.size, 3, none⟩ = _ := cell_of_row w2 w.heap.size 3 _ 25 _ HR2.out; have d24 : w2.cell? ⟨w.heap.size, 4, none⟩ = _ := cell_of_row w2 w.heap.size 4 _ 25 _ HR2.out; have d25 : w2.cell? ⟨w.heap.size, 5, none⟩ = _ := cell_of_row w2 w.heap.size 5 _ 25 _ HR2.out; have d20q : w2.cell? ⟨w.heap.size + 1, 0, none⟩ = _ := cell_of_row w2 (w.heap.size + 1) 0 _ 25 _ HS2.out; have d21q : w2.cell? ⟨w.heap.size + 1, 1, none⟩ = _ := cell_of_row w2 (w.heap.size + 1) 1 _ 25 _ HS2.out; have d22q : w2.cell? ⟨w.heap.size + 1, 2, none⟩ = _ := cell_of_row w2 (w.heap.size + 1) 2 _ 25 _ HS2.out; have d23q : w2.cell? ⟨w.heap.size + 1, 3, none⟩ = _ := cell_of_row w2 (w.heap.size + 1) 3 _ 25 _ HS2.out; have d24q : w2.cell? ⟨w.heap.size + 1, 4, none⟩ = _ := cell_of_row w2 (w.heap.size + 1) 4 _ 25 _ HS2.out; have d25q : w2.cell? ⟨w.heap.size + 1, 5, none⟩ = _ := cell_of_row w2 (w.heap.size + 1) 5 _ 25 _ HS2.out; clear hf2)
      | (go_at_call 15; refine (HK.out _ _ (heap_alloc_new _ _)).mono ?_; rintro e w3 ⟨rfl, hf3⟩; have HF3 := Lib.hid (HF2.out.trans (((Fr.refl [] w2).alloc _).trans hf3)); have HR3 := Lib.hid ((((Fr.refl [] w2).alloc _).trans hf3).blk HR2.out List.not_mem_nil); have HS3 := Lib.hid ((((Fr.refl [] w2).alloc _).trans hf3).blk HS2.out List.not_mem_nil); have d30 : w3.cell? ⟨w.heap.size, 0, none⟩ = _ := cell_of_row w3 w.heap.size 0 _ 25 _ HR3.out; have d31 : w3.cell? ⟨w.heap.size, 1, none⟩ = _ := cell_of_row w3 w.heap.size 1 _ 25 _ HR3.out; have d32 : w3.cell? ⟨w.heap.size, 2, none⟩ = _ := cell_of_row w3 w.heap.size 2 _ 25 _ HR3.out; have d33 : w3.cell? ⟨w.heap.size, 3, none⟩ = _ := cell_of_row w3 w.heap.size 3 _ 25 _ HR3.out; have d34 : w3.cell? ⟨w.heap.size, 4, none⟩ = _ := cell_of_row w3 w.heap.size 4 _ 25 _ HR3.out; have d35 : w3.cell? ⟨w.heap.size, 5, none⟩ = _ := cell_of_row w3 w.heap.size 5 _ 25 _ HR3.out; have d30q : w3.cell? ⟨w.heap.size + 1, 0, none⟩ = _ := cell_of_row w3 (w.heap.size + 1) 0 _ 25 _ HS3.out; have d31q : w3.cell? ⟨w.heap.size + 1, 1, none⟩ = _ := cell_of_row w3 (w.heap.size + 1) 1 _ 25 _ HS3.out; have d32q : w3.cell? ⟨w.heap.size + 1, 2, none⟩ = _ := cell_of_row w3 (w.heap.size + 1) 2 _ 25 _ HS3.out; have d33q : w3.cell? ⟨w.heap.size + 1, 3, none⟩ = _ := cell_of_row w3 (w.heap.size + 1) 3 _ 25 _ HS3.out; have d34q : w3.cell? ⟨w.heap.size + 1, 4, none⟩ = _ := cell_of_row w3 (w.heap.size + 1) 4 _ 25 _ HS3.out; have d35q : w3.cell? ⟨w.heap.size + 1, 5, none⟩ = _ := cell_of_row w3 (w.heap.size + 1) 5 _ 25 _ HS3.out; clear hf3))
    go_ret
    exact ⟨rfl, HF3.out⟩
  | true =>
  cases C with
  | false =>
    go_enter Tryz.func3, Tryz.ntmps3
    go_upto_region 1 with fail
    rw [← HW0.out]
    have d00 : w0.cell? ⟨w.heap.size, 0, none⟩ = _ := cell_of_row w0 w.heap.size 0 _ 25 _ HR0.out
    have d01 : w0.cell? ⟨w.heap.size, 1, none⟩ = _ := cell_of_row w0 w.heap.size 1 _ 25 _ HR0.out
    have d02 : w0.cell? ⟨w.heap.size, 2, none⟩ = _ := cell_of_row w0 w.heap.size 2 _ 25 _ HR0.out
    have d03 : w0.cell? ⟨w.heap.size, 3, none⟩ = _ := cell_of_row w0 w.heap.size 3 _ 25 _ HR0.out
    have d04 : w0.cell? ⟨w.heap.size, 4, none⟩ = _ := cell_of_row w0 w.heap.size 4 _ 25 _ HR0.out
    have d05 : w0.cell? ⟨w.heap.size, 5, none⟩ = _ := cell_of_row w0 w.heap.size 5 _ 25 _ HR0.out
    have d00q : w0.cell? ⟨w.heap.size + 1, 0, none⟩ = _ := cell_of_row w0 (w.heap.size + 1) 0 _ 25 _ HS0.out
    have d01q : w0.cell? ⟨w.heap.size + 1, 1, none⟩ = _ := cell_of_row w0 (w.heap.size + 1) 1 _ 25 _ HS0.out
    have d02q : w0.cell? ⟨w.heap.size + 1, 2, none⟩ = _ := cell_of_row w0 (w.heap.size + 1) 2 _ 25 _ HS0.out
    have d03q : w0.cell? ⟨w.heap.size + 1, 3, none⟩ = _ := cell_of_row w0 (w.heap.size + 1) 3 _ 25 _ HS0.out
    have d04q : w0.cell? ⟨w.heap.size + 1, 4, none⟩ = _ := cell_of_row w0 (w.heap.size + 1) 4 _ 25 _ HS0.out
    have d05q : w0.cell? ⟨w.heap.size + 1, 5, none⟩ = _ := cell_of_row w0 (w.heap.size + 1) 5 _ 25 _ HS0.out
    go_wp2_with (first
      | (go_at_call_of 14 (Value.agg #[.int .i64 k, .string s, .int .i64 n, .int .u64 u, .float .f64 f, .bool x]); refine (HZ.out _).mono ?_; rintro e w1 ⟨rfl, hf1⟩; have HF1 := Lib.hid (HF0.out.trans (hf1)); have HR1 := Lib.hid ((hf1).blk HR0.out List.not_mem_nil); have HS1 := Lib.hid ((hf1).blk HS0.out List.not_mem_nil); have d10 : w1.cell? ⟨w.heap.size, 0, none⟩ = _ := cell_of_row w1 w.heap.size 0 _ 25 _ HR1.out; have d11 : w1.cell? ⟨w.heap.size, 1, none⟩ = _ := cell_of_row w1 w.heap.size 1 _ 25 _ HR1.out; have d12 : w1.cell? ⟨w.heap.size, 2, none⟩ = _ := cell_of_row w1 w.heap.size 2 _ 25 _ HR1.out; have d13 : w1.cell? ⟨w.heap.size, 3, none⟩ = _ := cell_of_row w1 w.heap.size 3 _ 25 _ HR1.out; have d14 : w1.cell? ⟨w.heap.size, 4, none⟩ = _ := cell_of_row w1 w.heap.size 4 _ 25 _ HR1.out; have d15 : w1.cell? ⟨w.heap.size, 5, none⟩ = _ := cell_of_row w1 w.heap.size 5 _ 25 _ HR1.out; have d10q : w1.cell? ⟨w.heap.size + 1, 0, none⟩ = _ := cell_of_row w1 (w.heap.size + 1) 0 _ 25 _ HS1.out; have d11q : w1.cell? ⟨w.heap.size + 1, 1, none⟩ = _ := cell_of_row w1 (w.heap.size + 1) 1 _ 25 _ HS1.out; have d12q : w1.cell? ⟨w.heap.size + 1, 2, none⟩ = _ := cell_of_row w1 (w.heap.size + 1) 2 _ 25 _ HS1.out; have d13q : w1.cell? ⟨w.heap.size + 1, 3, none⟩ = _ := cell_of_row w1 (w.heap.size + 1) 3 _ 25 _ HS1.out; have d14q : w1.cell? ⟨w.heap.size + 1, 4, none⟩ = _ := cell_of_row w1 (w.heap.size + 1) 4 _ 25 _ HS1.out; have d15q : w1.cell? ⟨w.heap.size + 1, 5, none⟩ = _ := cell_of_row w1 (w.heap.size + 1) 5 _ 25 _ HS1.out; clear hf1)
      | (go_at_call 14; refine (HZ'.out _).mono ?_; rintro e w2 ⟨rfl, hf2⟩; have HF2 := Lib.hid (HF1.out.trans (hf2)); have HR2 := Lib.hid ((hf2).blk HR1.out List.not_mem_nil); have HS2 := Lib.hid ((hf2).blk HS1.out List.not_mem_nil); have d20 : w2.cell? ⟨w.heap.size, 0, none⟩ = _ := cell_of_row w2 w.heap.size 0 _ 25 _ HR2.out; have d21 : w2.cell? ⟨w.heap.size, 1, none⟩ = _ := cell_of_row w2 w.heap.size 1 _ 25 _ HR2.out; have d22 : w2.cell? ⟨w.heap.size, 2, none⟩ = _ := cell_of_row w2 w.heap.size 2 _ 25 _ HR2.out; have d23 : w2.cell? ⟨w.heap.size, 3, none⟩ = _ := cell_of_row w2 w.heap.size 3 _ 25 _ HR2.out; have d24 : w2.cell? ⟨w.heap.size, 4, none⟩ = _ := cell_of_row w2 w.heap.size 4 _ 25 _ HR2.out; have d25 : w2.cell? ⟨w.heap.size, 5, none⟩ = _ := cell_of_row w2 w.heap.size 5 _ 25 _ HR2.out; have d20q : w2.cell? ⟨w.heap.size + 1, 0, none⟩ = _ := cell_of_row w2 (w.heap.size + 1) 0 _ 25 _ HS2.out; have d21q : w2.cell? ⟨w.heap.size + 1, 1, none⟩ = _ := cell_of_row w2 (w.heap.size + 1) 1 _ 25 _ HS2.out; have d22q : w2.cell? ⟨w.heap.size + 1, 2, none⟩ = _ := cell_of_row w2 (w.heap.size + 1) 2 _ 25 _ HS2.out; have d23q : w2.cell? ⟨w.heap.size + 1, 3, none⟩ = _ := cell_of_row w2 (w.heap.size + 1) 3 _ 25 _ HS2.out; have d24q : w2.cell? ⟨w.heap.size + 1, 4, none⟩ = _ := cell_of_row w2 (w.heap.size + 1) 4 _ 25 _ HS2.out; have d25q : w2.cell? ⟨w.heap.size + 1, 5, none⟩ = _ := cell_of_row w2 (w.heap.size + 1) 5 _ 25 _ HS2.out; clear hf2)
      | (go_at_call 15; refine (HK.out _ _ (heap_alloc_new _ _)).mono ?_; rintro e w3 ⟨rfl, hf3⟩; have HF3 := Lib.hid (HF2.out.trans (((Fr.refl [] w2).alloc _).trans hf3)); have HR3 := Lib.hid ((((Fr.refl [] w2).alloc _).trans hf3).blk HR2.out List.not_mem_nil); have HS3 := Lib.hid ((((Fr.refl [] w2).alloc _).trans hf3).blk HS2.out List.not_mem_nil); have d30 : w3.cell? ⟨w.heap.size, 0, none⟩ = _ := cell_of_row w3 w.heap.size 0 _ 25 _ HR3.out; have d31 : w3.cell? ⟨w.heap.size, 1, none⟩ = _ := cell_of_row w3 w.heap.size 1 _ 25 _ HR3.out; have d32 : w3.cell? ⟨w.heap.size, 2, none⟩ = _ := cell_of_row w3 w.heap.size 2 _ 25 _ HR3.out; have d33 : w3.cell? ⟨w.heap.size, 3, none⟩ = _ := cell_of_row w3 w.heap.size 3 _ 25 _ HR3.out; have d34 : w3.cell? ⟨w.heap.size, 4, none⟩ = _ := cell_of_row w3 w.heap.size 4 _ 25 _ HR3.out; have d35 : w3.cell? ⟨w.heap.size, 5, none⟩ = _ := cell_of_row w3 w.heap.size 5 _ 25 _ HR3.out; have d30q : w3.cell? ⟨w.heap.size + 1, 0, none⟩ = _ := cell_of_row w3 (w.heap.size + 1) 0 _ 25 _ HS3.out; have d31q : w3.cell? ⟨w.heap.size + 1, 1, none⟩ = _ := cell_of_row w3 (w.heap.size + 1) 1 _ 25 _ HS3.out; have d32q : w3.cell? ⟨w.heap.size + 1, 2, none⟩ = _ := cell_of_row w3 (w.heap.size + 1) 2 _ 25 _ HS3.out; have d33q : w3.cell? ⟨w.heap.size + 1, 3, none⟩ = _ := cell_of_row w3 (w.heap.size + 1) 3 _ 25 _ HS3.out; have d34q : w3.cell? ⟨w.heap.size + 1, 4, none⟩ = _ := cell_of_row w3 (w.heap.size + 1) 4 _ 25 _ HS3.out; have d35q : w3.cell? ⟨w.heap.size + 1, 5, none⟩ = _ := cell_of_row w3 (w.heap.size + 1) 5 _ 25 _ HS3.out; clear hf3)
      | (go_at_call_of 16 (Value.agg #[.int .i64 k, .string s, .int .i64 n, .int .u64 u, .float .f64 f, .bool x]); refine ((HC.out (by trivial)).1 _).mono ?_; rintro e w4 ⟨rfl, hf4⟩; have HF4 := Lib.hid (HF3.out.trans (hf4)); have HR4 := Lib.hid ((hf4).blk HR3.out List.not_mem_nil); have HS4 := Lib.hid ((hf4).blk HS3.out List.not_mem_nil); have d40 : w4.cell? ⟨w.heap.size, 0, none⟩ = _ := cell_of_row w4 w.heap.size 0 _ 25 _ HR4.out; have d41 : w4.cell? ⟨w.heap.size, 1, none⟩ = _ := cell_of_row w4 w.heap.size 1 _ 25 _ HR4.out; have d42 : w4.cell? ⟨w.heap.size, 2, none⟩ = _ := cell_of_row w4 w.heap.size 2 _ 25 _ HR4.out; have d43 : w4.cell? ⟨w.heap.size, 3, none⟩ = _ := cell_of_row w4 w.heap.size 3 _ 25 _ HR4.out; have d44 : w4.cell? ⟨w.heap.size, 4, none⟩ = _ := cell_of_row w4 w.heap.size 4 _ 25 _ HR4.out; have d45 : w4.cell? ⟨w.heap.size, 5, none⟩ = _ := cell_of_row w4 w.heap.size 5 _ 25 _ HR4.out; have d40q : w4.cell? ⟨w.heap.size + 1, 0, none⟩ = _ := cell_of_row w4 (w.heap.size + 1) 0 _ 25 _ HS4.out; have d41q : w4.cell? ⟨w.heap.size + 1, 1, none⟩ = _ := cell_of_row w4 (w.heap.size + 1) 1 _ 25 _ HS4.out; have d42q : w4.cell? ⟨w.heap.size + 1, 2, none⟩ = _ := cell_of_row w4 (w.heap.size + 1) 2 _ 25 _ HS4.out; have d43q : w4.cell? ⟨w.heap.size + 1, 3, none⟩ = _ := cell_of_row w4 (w.heap.size + 1) 3 _ 25 _ HS4.out; have d44q : w4.cell? ⟨w.heap.size + 1, 4, none⟩ = _ := cell_of_row w4 (w.heap.size + 1) 4 _ 25 _ HS4.out; have d45q : w4.cell? ⟨w.heap.size + 1, 5, none⟩ = _ := cell_of_row w4 (w.heap.size + 1) 5 _ 25 _ HS4.out; clear hf4))
    go_ret
    exact ⟨rfl, HF4.out⟩
  | true =>
  cases C' with
  | false =>
    go_enter Tryz.func3, Tryz.ntmps3
    go_upto_region 1 with fail
    rw [← HW0.out]
    have d00 : w0.cell? ⟨w.heap.size, 0, none⟩ = _ := cell_of_row w0 w.heap.size 0 _ 25 _ HR0.out
    have d01 : w0.cell? ⟨w.heap.size, 1, none⟩ = _ := cell_of_row w0 w.heap.size 1 _ 25 _ HR0.out
    have d02 : w0.cell? ⟨w.heap.size, 2, none⟩ = _ := cell_of_row w0 w.heap.size 2 _ 25 _ HR0.out
    have d03 : w0.cell? ⟨w.heap.size, 3, none⟩ = _ := cell_of_row w0 w.heap.size 3 _ 25 _ HR0.out
    have d04 : w0.cell? ⟨w.heap.size, 4, none⟩ = _ := cell_of_row w0 w.heap.size 4 _ 25 _ HR0.out
    have d05 : w0.cell? ⟨w.heap.size, 5, none⟩ = _ := cell_of_row w0 w.heap.size 5 _ 25 _ HR0.out
    have d00q : w0.cell? ⟨w.heap.size + 1, 0, none⟩ = _ := cell_of_row w0 (w.heap.size + 1) 0 _ 25 _ HS0.out
    have d01q : w0.cell? ⟨w.heap.size + 1, 1, none⟩ = _ := cell_of_row w0 (w.heap.size + 1) 1 _ 25 _ HS0.out
    have d02q : w0.cell? ⟨w.heap.size + 1, 2, none⟩ = _ := cell_of_row w0 (w.heap.size + 1) 2 _ 25 _ HS0.out
    have d03q : w0.cell? ⟨w.heap.size + 1, 3, none⟩ = _ := cell_of_row w0 (w.heap.size + 1) 3 _ 25 _ HS0.out
    have d04q : w0.cell? ⟨w.heap.size + 1, 4, none⟩ = _ := cell_of_row w0 (w.heap.size + 1) 4 _ 25 _ HS0.out
    have d05q : w0.cell? ⟨w.heap.size + 1, 5, none⟩ = _ := cell_of_row w0 (w.heap.size + 1) 5 _ 25 _ HS0.out
    go_wp2_with (first
      | (go_at_call_of 14 (Value.agg #[.int .i64 k, .string s, .int .i64 n, .int .u64 u, .float .f64 f, .bool x]); refine (HZ.out _).mono ?_; rintro e w1 ⟨rfl, hf1⟩; have HF1 := Lib.hid (HF0.out.trans (hf1)); have HR1 := Lib.hid ((hf1).blk HR0.out List.not_mem_nil); have HS1 := Lib.hid ((hf1).blk HS0.out List.not_mem_nil); have d10 : w1.cell? ⟨w.heap.size, 0, none⟩ = _ := cell_of_row w1 w.heap.size 0 _ 25 _ HR1.out; have d11 : w1.cell? ⟨w.heap.size, 1, none⟩ = _ := cell_of_row w1 w.heap.size 1 _ 25 _ HR1.out; have d12 : w1.cell? ⟨w.heap.size, 2, none⟩ = _ := cell_of_row w1 w.heap.size 2 _ 25 _ HR1.out; have d13 : w1.cell? ⟨w.heap.size, 3, none⟩ = _ := cell_of_row w1 w.heap.size 3 _ 25 _ HR1.out; have d14 : w1.cell? ⟨w.heap.size, 4, none⟩ = _ := cell_of_row w1 w.heap.size 4 _ 25 _ HR1.out; have d15 : w1.cell? ⟨w.heap.size, 5, none⟩ = _ := cell_of_row w1 w.heap.size 5 _ 25 _ HR1.out; have d10q : w1.cell? ⟨w.heap.size + 1, 0, none⟩ = _ := cell_of_row w1 (w.heap.size + 1) 0 _ 25 _ HS1.out; have d11q : w1.cell? ⟨w.heap.size + 1, 1, none⟩ = _ := cell_of_row w1 (w.heap.size + 1) 1 _ 25 _ HS1.out; have d12q : w1.cell? ⟨w.heap.size + 1, 2, none⟩ = _ := cell_of_row w1 (w.heap.size + 1) 2 _ 25 _ HS1.out; have d13q : w1.cell? ⟨w.heap.size + 1, 3, none⟩ = _ := cell_of_row w1 (w.heap.size + 1) 3 _ 25 _ HS1.out; have d14q : w1.cell? ⟨w.heap.size + 1, 4, none⟩ = _ := cell_of_row w1 (w.heap.size + 1) 4 _ 25 _ HS1.out; have d15q : w1.cell? ⟨w.heap.size + 1, 5, none⟩ = _ := cell_of_row w1 (w.heap.size + 1) 5 _ 25 _ HS1.out; clear hf1)
      | (go_at_call 14; refine (HZ'.out _).mono ?_; rintro e w2 ⟨rfl, hf2⟩; have HF2 := Lib.hid (HF1.out.trans (hf2)); have HR2 := Lib.hid ((hf2).blk HR1.out List.not_mem_nil); have HS2 := Lib.hid ((hf2).blk HS1.out List.not_mem_nil); have d20 : w2.cell? ⟨w.heap.size, 0, none⟩ = _ := cell_of_row w2 w.heap.size 0 _ 25 _ HR2.out; have d21 : w2.cell? ⟨w.heap.size, 1, none⟩ = _ := cell_of_row w2 w.heap.size 1 _ 25 _ HR2.out; have d22 : w2.cell? ⟨w.heap.size, 2, none⟩ = _ := cell_of_row w2 w.heap.size 2 _ 25 _ HR2.out; have d23 : w2.cell? ⟨w.heap.size, 3, none⟩ = _ := cell_of_row w2 w.heap.size 3 _ 25 _ HR2.out; have d24 : w2.cell? ⟨w.heap.size, 4, none⟩ = _ := cell_of_row w2 w.heap.size 4 _ 25 _ HR2.out; have d25 : w2.cell? ⟨w.heap.size, 5, none⟩ = _ := cell_of_row w2 w.heap.size 5 _ 25 _ HR2.out; have d20q : w2.cell? ⟨w.heap.size + 1, 0, none⟩ = _ := cell_of_row w2 (w.heap.size + 1) 0 _ 25 _ HS2.out; have d21q : w2.cell? ⟨w.heap.size + 1, 1, none⟩ = _ := cell_of_row w2 (w.heap.size + 1) 1 _ 25 _ HS2.out; have d22q : w2.cell? ⟨w.heap.size + 1, 2, none⟩ = _ := cell_of_row w2 (w.heap.size + 1) 2 _ 25 _ HS2.out; have d23q : w2.cell? ⟨w.heap.size + 1, 3, none⟩ = _ := cell_of_row w2 (w.heap.size + 1) 3 _ 25 _ HS2.out; have d24q : w2.cell? ⟨w.heap.size + 1, 4, none⟩ = _ := cell_of_row w2 (w.heap.size + 1) 4 _ 25 _ HS2.out; have d25q : w2.cell? ⟨w.heap.size + 1, 5, none⟩ = _ := cell_of_row w2 (w.heap.size + 1) 5 _ 25 _ HS2.out; clear hf2)
      | (go_at_call 15; refine (HK.out _ _ (heap_alloc_new _ _)).mono ?_; rintro e w3 ⟨rfl, hf3⟩; have HF3 := Lib.hid (HF2.out.trans (((Fr.refl [] w2).alloc _).trans hf3)); have HR3 := Lib.hid ((((Fr.refl [] w2).alloc _).trans hf3).blk HR2.out List.not_mem_nil); have HS3 := Lib.hid ((((Fr.refl [] w2).alloc _).trans hf3).blk HS2.out List.not_mem_nil); have d30 : w3.cell? ⟨w.heap.size, 0, none⟩ = _ := cell_of_row w3 w.heap.size 0 _ 25 _ HR3.out; have d31 : w3.cell? ⟨w.heap.size, 1, none⟩ = _ := cell_of_row w3 w.heap.size 1 _ 25 _ HR3.out; have d32 : w3.cell? ⟨w.heap.size, 2, none⟩ = _ := cell_of_row w3 w.heap.size 2 _ 25 _ HR3.out; have d33 : w3.cell? ⟨w.heap.size, 3, none⟩ = _ := cell_of_row w3 w.heap.size 3 _ 25 _ HR3.out; have d34 : w3.cell? ⟨w.heap.size, 4, none⟩ = _ := cell_of_row w3 w.heap.size 4 _ 25 _ HR3.out; have d35 : w3.cell? ⟨w.heap.size, 5, none⟩ = _ := cell_of_row w3 w.heap.size 5 _ 25 _ HR3.out; have d30q : w3.cell? ⟨w.heap.size + 1, 0, none⟩ = _ := cell_of_row w3 (w.heap.size + 1) 0 _ 25 _ HS3.out; have d31q : w3.cell? ⟨w.heap.size + 1, 1, none⟩ = _ := cell_of_row w3 (w.heap.size + 1) 1 _ 25 _ HS3.out; have d32q : w3.cell? ⟨w.heap.size + 1, 2, none⟩ = _ := cell_of_row w3 (w.heap.size + 1) 2 _ 25 _ HS3.out; have d33q : w3.cell? ⟨w.heap.size + 1, 3, none⟩ = _ := cell_of_row w3 (w.heap.size + 1) 3 _ 25 _ HS3.out; have d34q : w3.cell? ⟨w.heap.size + 1, 4, none⟩ = _ := cell_of_row w3 (w.heap.size + 1) 4 _ 25 _ HS3.out; have d35q : w3.cell? ⟨w.heap.size + 1, 5, none⟩ = _ := cell_of_row w3 (w.heap.size + 1) 5 _ 25 _ HS3.out; clear hf3)
      | (go_at_call_of 16 (Value.agg #[.int .i64 k, .string s, .int .i64 n, .int .u64 u, .float .f64 f, .bool x]); refine ((HC.out (by trivial)).1 _).mono ?_; rintro e w4 ⟨rfl, hf4⟩; have HF4 := Lib.hid (HF3.out.trans (hf4)); have HR4 := Lib.hid ((hf4).blk HR3.out List.not_mem_nil); have HS4 := Lib.hid ((hf4).blk HS3.out List.not_mem_nil); have d40 : w4.cell? ⟨w.heap.size, 0, none⟩ = _ := cell_of_row w4 w.heap.size 0 _ 25 _ HR4.out; have d41 : w4.cell? ⟨w.heap.size, 1, none⟩ = _ := cell_of_row w4 w.heap.size 1 _ 25 _ HR4.out; have d42 : w4.cell? ⟨w.heap.size, 2, none⟩ = _ := cell_of_row w4 w.heap.size 2 _ 25 _ HR4.out; have d43 : w4.cell? ⟨w.heap.size, 3, none⟩ = _ := cell_of_row w4 w.heap.size 3 _ 25 _ HR4.out; have d44 : w4.cell? ⟨w.heap.size, 4, none⟩ = _ := cell_of_row w4 w.heap.size 4 _ 25 _ HR4.out; have d45 : w4.cell? ⟨w.heap.size, 5, none⟩ = _ := cell_of_row w4 w.heap.size 5 _ 25 _ HR4.out; have d40q : w4.cell? ⟨w.heap.size + 1, 0, none⟩ = _ := cell_of_row w4 (w.heap.size + 1) 0 _ 25 _ HS4.out; have d41q : w4.cell? ⟨w.heap.size + 1, 1, none⟩ = _ := cell_of_row w4 (w.heap.size + 1) 1 _ 25 _ HS4.out; have d42q : w4.cell? ⟨w.heap.size + 1, 2, none⟩ = _ := cell_of_row w4 (w.heap.size + 1) 2 _ 25 _ HS4.out; have d43q : w4.cell? ⟨w.heap.size + 1, 3, none⟩ = _ := cell_of_row w4 (w.heap.size + 1) 3 _ 25 _ HS4.out; have d44q : w4.cell? ⟨w.heap.size + 1, 4, none⟩ = _ := cell_of_row w4 (w.heap.size + 1) 4 _ 25 _ HS4.out; have d45q : w4.cell? ⟨w.heap.size + 1, 5, none⟩ = _ := cell_of_row w4 (w.heap.size + 1) 5 _ 25 _ HS4.out; clear hf4)
      | (go_at_call 16; refine ((HC.out (by trivial)).2 _).mono ?_; rintro e w5 ⟨rfl, hf5⟩; have HF5 := Lib.hid (HF4.out.trans (hf5)); have HR5 := Lib.hid ((hf5).blk HR4.out List.not_mem_nil); have HS5 := Lib.hid ((hf5).blk HS4.out List.not_mem_nil); have d50 : w5.cell? ⟨w.heap.size, 0, none⟩ = _ := cell_of_row w5 w.heap.size 0 _ 25 _ HR5.out; have d51 : w5.cell? ⟨w.heap.size, 1, none⟩ = _ := cell_of_row w5 w.heap.size 1 _ 25 _ HR5.out; have d52 : w5.cell? ⟨w.heap.size, 2, none⟩ = _ := cell_of_row w5 w.heap.size 2 _ 25 _ HR5.out; have d53 : w5.cell? ⟨w.heap.size, 3, none⟩ = _ := cell_of_row w5 w.heap.size 3 _ 25 _ HR5.out; have d54 : w5.cell? ⟨w.heap.size, 4, none⟩ = _ := cell_of_row w5 w.heap.size 4 _ 25 _ HR5.out; have d55 : w5.cell? ⟨w.heap.size, 5, none⟩ = _ := cell_of_row w5 w.heap.size 5 _ 25 _ HR5.out; have d50q : w5.cell? ⟨w.heap.size + 1, 0, none⟩ = _ := cell_of_row w5 (w.heap.size + 1) 0 _ 25 _ HS5.out; have d51q : w5.cell? ⟨w.heap.size + 1, 1, none⟩ = _ := cell_of_row w5 (w.heap.size + 1) 1 _ 25 _ HS5.out; have d52q : w5.cell? ⟨w.heap.size + 1, 2, none⟩ = _ := cell_of_row w5 (w.heap.size + 1) 2 _ 25 _ HS5.out; have d53q : w5.cell? ⟨w.heap.size + 1, 3, none⟩ = _ := cell_of_row w5 (w.heap.size + 1) 3 _ 25 _ HS5.out; have d54q : w5.cell? ⟨w.heap.size + 1, 4, none⟩ = _ := cell_of_row w5 (w.heap.size + 1) 4 _ 25 _ HS5.out; have d55q : w5.cell? ⟨w.heap.size + 1, 5, none⟩ = _ := cell_of_row w5 (w.heap.size + 1) 5 _ 25 _ HS5.out; clear hf5))
    go_ret
    exact ⟨rfl, HF5.out⟩
  | true =>
  obtain ⟨R, Q, S, T, hQ, hR, hE1, hE2, hE3, hT1, hT2⟩ := HM.out (by trivial) (by trivial) (by trivial)
  have HE1 := Lib.hid hE1
  have HE2 := Lib.hid hE2
  have HE3 := Lib.hid hE3
  have HT1 := Lib.hid hT1
  have HT2 := Lib.hid hT2
  have HQ := Lib.hid hQ
  have HRR := Lib.hid hR
  clear hQ hR hE1 hE2 hE3 hT1 hT2 HM
  go_enter Tryz.func3, Tryz.ntmps3
  go_upto_region 1 with fail
  rw [← HW0.out]
  have d00 : w0.cell? ⟨w.heap.size, 0, none⟩ = _ := cell_of_row w0 w.heap.size 0 _ 25 _ HR0.out
  have d01 : w0.cell? ⟨w.heap.size, 1, none⟩ = _ := cell_of_row w0 w.heap.size 1 _ 25 _ HR0.out
  have d02 : w0.cell? ⟨w.heap.size, 2, none⟩ = _ := cell_of_row w0 w.heap.size 2 _ 25 _ HR0.out
  have d03 : w0.cell? ⟨w.heap.size, 3, none⟩ = _ := cell_of_row w0 w.heap.size 3 _ 25 _ HR0.out
  have d04 : w0.cell? ⟨w.heap.size, 4, none⟩ = _ := cell_of_row w0 w.heap.size 4 _ 25 _ HR0.out
  have d05 : w0.cell? ⟨w.heap.size, 5, none⟩ = _ := cell_of_row w0 w.heap.size 5 _ 25 _ HR0.out
  have d00q : w0.cell? ⟨w.heap.size + 1, 0, none⟩ = _ := cell_of_row w0 (w.heap.size + 1) 0 _ 25 _ HS0.out
  have d01q : w0.cell? ⟨w.heap.size + 1, 1, none⟩ = _ := cell_of_row w0 (w.heap.size + 1) 1 _ 25 _ HS0.out
  have d02q : w0.cell? ⟨w.heap.size + 1, 2, none⟩ = _ := cell_of_row w0 (w.heap.size + 1) 2 _ 25 _ HS0.out
  have d03q : w0.cell? ⟨w.heap.size + 1, 3, none⟩ = _ := cell_of_row w0 (w.heap.size + 1) 3 _ 25 _ HS0.out
  have d04q : w0.cell? ⟨w.heap.size + 1, 4, none⟩ = _ := cell_of_row w0 (w.heap.size + 1) 4 _ 25 _ HS0.out
  have d05q : w0.cell? ⟨w.heap.size + 1, 5, none⟩ = _ := cell_of_row w0 (w.heap.size + 1) 5 _ 25 _ HS0.out
  go_upto_region 5 with (first
    | (go_at_call_of 14 (Value.agg #[.int .i64 k, .string s, .int .i64 n, .int .u64 u, .float .f64 f, .bool x]); refine (HZ.out _).mono ?_; rintro e w1 ⟨rfl, hf1⟩; have HF1 := Lib.hid (HF0.out.trans (hf1)); have HR1 := Lib.hid ((hf1).blk HR0.out List.not_mem_nil); have HS1 := Lib.hid ((hf1).blk HS0.out List.not_mem_nil); have d10 : w1.cell? ⟨w.heap.size, 0, none⟩ = _ := cell_of_row w1 w.heap.size 0 _ 25 _ HR1.out; have d11 : w1.cell? ⟨w.heap.size, 1, none⟩ = _ := cell_of_row w1 w.heap.size 1 _ 25 _ HR1.out; have d12 : w1.cell? ⟨w.heap.size, 2, none⟩ = _ := cell_of_row w1 w.heap.size 2 _ 25 _ HR1.out; have d13 : w1.cell? ⟨w.heap.size, 3, none⟩ = _ := cell_of_row w1 w.heap.size 3 _ 25 _ HR1.out; have d14 : w1.cell? ⟨w.heap.size, 4, none⟩ = _ := cell_of_row w1 w.heap.size 4 _ 25 _ HR1.out; have d15 : w1.cell? ⟨w.heap.size, 5, none⟩ = _ := cell_of_row w1 w.heap.size 5 _ 25 _ HR1.out; have d10q : w1.cell? ⟨w.heap.size + 1, 0, none⟩ = _ := cell_of_row w1 (w.heap.size + 1) 0 _ 25 _ HS1.out; have d11q : w1.cell? ⟨w.heap.size + 1, 1, none⟩ = _ := cell_of_row w1 (w.heap.size + 1) 1 _ 25 _ HS1.out; have d12q : w1.cell? ⟨w.heap.size + 1, 2, none⟩ = _ := cell_of_row w1 (w.heap.size + 1) 2 _ 25 _ HS1.out; have d13q : w1.cell? ⟨w.heap.size + 1, 3, none⟩ = _ := cell_of_row w1 (w.heap.size + 1) 3 _ 25 _ HS1.out; have d14q : w1.cell? ⟨w.heap.size + 1, 4, none⟩ = _ := cell_of_row w1 (w.heap.size + 1) 4 _ 25 _ HS1.out; have d15q : w1.cell? ⟨w.heap.size + 1, 5, none⟩ = _ := cell_of_row w1 (w.heap.size + 1) 5 _ 25 _ HS1.out; clear hf1)
    | (go_at_call 14; refine (HZ'.out _).mono ?_; rintro e w2 ⟨rfl, hf2⟩; have HF2 := Lib.hid (HF1.out.trans (hf2)); have HR2 := Lib.hid ((hf2).blk HR1.out List.not_mem_nil); have HS2 := Lib.hid ((hf2).blk HS1.out List.not_mem_nil); have d20 : w2.cell? ⟨w.heap.size, 0, none⟩ = _ := cell_of_row w2 w.heap.size 0 _ 25 _ HR2.out; have d21 : w2.cell? ⟨w.heap.size, 1, none⟩ = _ := cell_of_row w2 w.heap.size 1 _ 25 _ HR2.out; have d22 : w2.cell? ⟨w.heap.size, 2, none⟩ = _ := cell_of_row w2 w.heap.size 2 _ 25 _ HR2.out; have d23 : w2.cell? ⟨w.heap.size, 3, none⟩ = _ := cell_of_row w2 w.heap.size 3 _ 25 _ HR2.out; have d24 : w2.cell? ⟨w.heap.size, 4, none⟩ = _ := cell_of_row w2 w.heap.size 4 _ 25 _ HR2.out; have d25 : w2.cell? ⟨w.heap.size, 5, none⟩ = _ := cell_of_row w2 w.heap.size 5 _ 25 _ HR2.out; have d20q : w2.cell? ⟨w.heap.size + 1, 0, none⟩ = _ := cell_of_row w2 (w.heap.size + 1) 0 _ 25 _ HS2.out; have d21q : w2.cell? ⟨w.heap.size + 1, 1, none⟩ = _ := cell_of_row w2 (w.heap.size + 1) 1 _ 25 _ HS2.out; have d22q : w2.cell? ⟨w.heap.size + 1, 2, none⟩ = _ := cell_of_row w2 (w.heap.size + 1) 2 _ 25 _ HS2.out; have d23q : w2.cell? ⟨w.heap.size + 1, 3, none⟩ = _ := cell_of_row w2 (w.heap.size + 1) 3 _ 25 _ HS2.out; have d24q : w2.cell? ⟨w.heap.size + 1, 4, none⟩ = _ := cell_of_row w2 (w.heap.size + 1) 4 _ 25 _ HS2.out; have d25q : w2.cell? ⟨w.heap.size + 1, 5, none⟩ = _ := cell_of_row w2 (w.heap.size + 1) 5 _ 25 _ HS2.out; clear hf2)
    | (go_at_call 15; refine (HK.out _ _ (heap_alloc_new _ _)).mono ?_; rintro e w3 ⟨rfl, hf3⟩; have HF3 := Lib.hid (HF2.out.trans (((Fr.refl [] w2).alloc _).trans hf3)); have HR3 := Lib.hid ((((Fr.refl [] w2).alloc _).trans hf3).blk HR2.out List.not_mem_nil); have HS3 := Lib.hid ((((Fr.refl [] w2).alloc _).trans hf3).blk HS2.out List.not_mem_nil); have d30 : w3.cell? ⟨w.heap.size, 0, none⟩ = _ := cell_of_row w3 w.heap.size 0 _ 25 _ HR3.out; have d31 : w3.cell? ⟨w.heap.size, 1, none⟩ = _ := cell_of_row w3 w.heap.size 1 _ 25 _ HR3.out; have d32 : w3.cell? ⟨w.heap.size, 2, none⟩ = _ := cell_of_row w3 w.heap.size 2 _ 25 _ HR3.out; have d33 : w3.cell? ⟨w.heap.size, 3, none⟩ = _ := cell_of_row w3 w.heap.size 3 _ 25 _ HR3.out; have d34 : w3.cell? ⟨w.heap.size, 4, none⟩ = _ := cell_of_row w3 w.heap.size 4 _ 25 _ HR3.out; have d35 : w3.cell? ⟨w.heap.size, 5, none⟩ = _ := cell_of_row w3 w.heap.size 5 _ 25 _ HR3.out; have d30q : w3.cell? ⟨w.heap.size + 1, 0, none⟩ = _ := cell_of_row w3 (w.heap.size + 1) 0 _ 25 _ HS3.out; have d31q : w3.cell? ⟨w.heap.size + 1, 1, none⟩ = _ := cell_of_row w3 (w.heap.size + 1) 1 _ 25 _ HS3.out; have d32q : w3.cell? ⟨w.heap.size + 1, 2, none⟩ = _ := cell_of_row w3 (w.heap.size + 1) 2 _ 25 _ HS3.out; have d33q : w3.cell? ⟨w.heap.size + 1, 3, none⟩ = _ := cell_of_row w3 (w.heap.size + 1) 3 _ 25 _ HS3.out; have d34q : w3.cell? ⟨w.heap.size + 1, 4, none⟩ = _ := cell_of_row w3 (w.heap.size + 1) 4 _ 25 _ HS3.out; have d35q : w3.cell? ⟨w.heap.size + 1, 5, none⟩ = _ := cell_of_row w3 (w.heap.size + 1) 5 _ 25 _ HS3.out; clear hf3)
    | (go_at_call_of 16 (Value.agg #[.int .i64 k, .string s, .int .i64 n, .int .u64 u, .float .f64 f, .bool x]); refine ((HC.out (by trivial)).1 _).mono ?_; rintro e w4 ⟨rfl, hf4⟩; have HF4 := Lib.hid (HF3.out.trans (hf4)); have HR4 := Lib.hid ((hf4).blk HR3.out List.not_mem_nil); have HS4 := Lib.hid ((hf4).blk HS3.out List.not_mem_nil); have d40 : w4.cell? ⟨w.heap.size, 0, none⟩ = _ := cell_of_row w4 w.heap.size 0 _ 25 _ HR4.out; have d41 : w4.cell? ⟨w.heap.size, 1, none⟩ = _ := cell_of_row w4 w.heap.size 1 _ 25 _ HR4.out; have d42 : w4.cell? ⟨w.heap.size, 2, none⟩ = _ := cell_of_row w4 w.heap.size 2 _ 25 _ HR4.out; have d43 : w4.cell? ⟨w.heap.size, 3, none⟩ = _ := cell_of_row w4 w.heap.size 3 _ 25 _ HR4.out; have d44 : w4.cell? ⟨w.heap.size, 4, none⟩ = _ := cell_of_row w4 w.heap.size 4 _ 25 _ HR4.out; have d45 : w4.cell? ⟨w.heap.size, 5, none⟩ = _ := cell_of_row w4 w.heap.size 5 _ 25 _ HR4.out; have d40q : w4.cell? ⟨w.heap.size + 1, 0, none⟩ = _ := cell_of_row w4 (w.heap.size + 1) 0 _ 25 _ HS4.out; have d41q : w4.cell? ⟨w.heap.size + 1, 1, none⟩ = _ := cell_of_row w4 (w.heap.size + 1) 1 _ 25 _ HS4.out; have d42q : w4.cell? ⟨w.heap.size + 1, 2, none⟩ = _ := cell_of_row w4 (w.heap.size + 1) 2 _ 25 _ HS4.out; have d43q : w4.cell? ⟨w.heap.size + 1, 3, none⟩ = _ := cell_of_row w4 (w.heap.size + 1) 3 _ 25 _ HS4.out; have d44q : w4.cell? ⟨w.heap.size + 1, 4, none⟩ = _ := cell_of_row w4 (w.heap.size + 1) 4 _ 25 _ HS4.out; have d45q : w4.cell? ⟨w.heap.size + 1, 5, none⟩ = _ := cell_of_row w4 (w.heap.size + 1) 5 _ 25 _ HS4.out; clear hf4)
    | (go_at_call 16; refine ((HC.out (by trivial)).2 _).mono ?_; rintro e w5 ⟨rfl, hf5⟩; have HF5 := Lib.hid (HF4.out.trans (hf5)); have HR5 := Lib.hid ((hf5).blk HR4.out List.not_mem_nil); have HS5 := Lib.hid ((hf5).blk HS4.out List.not_mem_nil); have d50 : w5.cell? ⟨w.heap.size, 0, none⟩ = _ := cell_of_row w5 w.heap.size 0 _ 25 _ HR5.out; have d51 : w5.cell? ⟨w.heap.size, 1, none⟩ = _ := cell_of_row w5 w.heap.size 1 _ 25 _ HR5.out; have d52 : w5.cell? ⟨w.heap.size, 2, none⟩ = _ := cell_of_row w5 w.heap.size 2 _ 25 _ HR5.out; have d53 : w5.cell? ⟨w.heap.size, 3, none⟩ = _ := cell_of_row w5 w.heap.size 3 _ 25 _ HR5.out; have d54 : w5.cell? ⟨w.heap.size, 4, none⟩ = _ := cell_of_row w5 w.heap.size 4 _ 25 _ HR5.out; have d55 : w5.cell? ⟨w.heap.size, 5, none⟩ = _ := cell_of_row w5 w.heap.size 5 _ 25 _ HR5.out; have d50q : w5.cell? ⟨w.heap.size + 1, 0, none⟩ = _ := cell_of_row w5 (w.heap.size + 1) 0 _ 25 _ HS5.out; have d51q : w5.cell? ⟨w.heap.size + 1, 1, none⟩ = _ := cell_of_row w5 (w.heap.size + 1) 1 _ 25 _ HS5.out; have d52q : w5.cell? ⟨w.heap.size + 1, 2, none⟩ = _ := cell_of_row w5 (w.heap.size + 1) 2 _ 25 _ HS5.out; have d53q : w5.cell? ⟨w.heap.size + 1, 3, none⟩ = _ := cell_of_row w5 (w.heap.size + 1) 3 _ 25 _ HS5.out; have d54q : w5.cell? ⟨w.heap.size + 1, 4, none⟩ = _ := cell_of_row w5 (w.heap.size + 1) 4 _ 25 _ HS5.out; have d55q : w5.cell? ⟨w.heap.size + 1, 5, none⟩ = _ := cell_of_row w5 (w.heap.size + 1) 5 _ 25 _ HS5.out; clear hf5))
  go_upto_region 6 with (first
    | (go_at_call 17; refine (HE1.out _ (HG.out.fr HF5.out (fun _ h => by cases h))).mono ?_; rintro e w6 ⟨rfl, hf6⟩; have HF6 := Lib.hid (HF5.out.trans (hf6)); have HR6 := Lib.hid ((hf6).blk HR5.out List.not_mem_nil); have HS6 := Lib.hid ((hf6).blk HS5.out List.not_mem_nil); have d60 : w6.cell? ⟨w.heap.size, 0, none⟩ = _ := cell_of_row w6 w.heap.size 0 _ 25 _ HR6.out; have d61 : w6.cell? ⟨w.heap.size, 1, none⟩ = _ := cell_of_row w6 w.heap.size 1 _ 25 _ HR6.out; have d62 : w6.cell? ⟨w.heap.size, 2, none⟩ = _ := cell_of_row w6 w.heap.size 2 _ 25 _ HR6.out; have d63 : w6.cell? ⟨w.heap.size, 3, none⟩ = _ := cell_of_row w6 w.heap.size 3 _ 25 _ HR6.out; have d64 : w6.cell? ⟨w.heap.size, 4, none⟩ = _ := cell_of_row w6 w.heap.size 4 _ 25 _ HR6.out; have d65 : w6.cell? ⟨w.heap.size, 5, none⟩ = _ := cell_of_row w6 w.heap.size 5 _ 25 _ HR6.out; have d60q : w6.cell? ⟨w.heap.size + 1, 0, none⟩ = _ := cell_of_row w6 (w.heap.size + 1) 0 _ 25 _ HS6.out; have d61q : w6.cell? ⟨w.heap.size + 1, 1, none⟩ = _ := cell_of_row w6 (w.heap.size + 1) 1 _ 25 _ HS6.out; have d62q : w6.cell? ⟨w.heap.size + 1, 2, none⟩ = _ := cell_of_row w6 (w.heap.size + 1) 2 _ 25 _ HS6.out; have d63q : w6.cell? ⟨w.heap.size + 1, 3, none⟩ = _ := cell_of_row w6 (w.heap.size + 1) 3 _ 25 _ HS6.out; have d64q : w6.cell? ⟨w.heap.size + 1, 4, none⟩ = _ := cell_of_row w6 (w.heap.size + 1) 4 _ 25 _ HS6.out; have d65q : w6.cell? ⟨w.heap.size + 1, 5, none⟩ = _ := cell_of_row w6 (w.heap.size + 1) 5 _ 25 _ HS6.out; clear hf6))
  go_upto_region 7 with (first
    | (go_at_call 17; refine (HE2.out _ (HG.out.fr HF6.out (fun _ h => by cases h))).mono ?_; rintro e w7 ⟨rfl, hf7⟩; have HF7 := Lib.hid (HF6.out.trans (hf7)); have HR7 := Lib.hid ((hf7).blk HR6.out List.not_mem_nil); have HS7 := Lib.hid ((hf7).blk HS6.out List.not_mem_nil); have d70 : w7.cell? ⟨w.heap.size, 0, none⟩ = _ := cell_of_row w7 w.heap.size 0 _ 25 _ HR7.out; have d71 : w7.cell? ⟨w.heap.size, 1, none⟩ = _ := cell_of_row w7 w.heap.size 1 _ 25 _ HR7.out; have d72 : w7.cell? ⟨w.heap.size, 2, none⟩ = _ := cell_of_row w7 w.heap.size 2 _ 25 _ HR7.out; have d73 : w7.cell? ⟨w.heap.size, 3, none⟩ = _ := cell_of_row w7 w.heap.size 3 _ 25 _ HR7.out; have d74 : w7.cell? ⟨w.heap.size, 4, none⟩ = _ := cell_of_row w7 w.heap.size 4 _ 25 _ HR7.out; have d75 : w7.cell? ⟨w.heap.size, 5, none⟩ = _ := cell_of_row w7 w.heap.size 5 _ 25 _ HR7.out; have d70q : w7.cell? ⟨w.heap.size + 1, 0, none⟩ = _ := cell_of_row w7 (w.heap.size + 1) 0 _ 25 _ HS7.out; have d71q : w7.cell? ⟨w.heap.size + 1, 1, none⟩ = _ := cell_of_row w7 (w.heap.size + 1) 1 _ 25 _ HS7.out; have d72q : w7.cell? ⟨w.heap.size + 1, 2, none⟩ = _ := cell_of_row w7 (w.heap.size + 1) 2 _ 25 _ HS7.out; have d73q : w7.cell? ⟨w.heap.size + 1, 3, none⟩ = _ := cell_of_row w7 (w.heap.size + 1) 3 _ 25 _ HS7.out; have d74q : w7.cell? ⟨w.heap.size + 1, 4, none⟩ = _ := cell_of_row w7 (w.heap.size + 1) 4 _ 25 _ HS7.out; have d75q : w7.cell? ⟨w.heap.size + 1, 5, none⟩ = _ := cell_of_row w7 (w.heap.size + 1) 5 _ 25 _ HS7.out; clear hf7))
  go_upto_region 8 with (first
    | (go_at_call 17; refine (HE3.out _ (HG.out.fr HF7.out (fun _ h => by cases h))).mono ?_; rintro e w8 ⟨rfl, hf8⟩; have HF8 := Lib.hid (HF7.out.trans (hf8)); have HR8 := Lib.hid ((hf8).blk HR7.out List.not_mem_nil); have HS8 := Lib.hid ((hf8).blk HS7.out List.not_mem_nil); have d80 : w8.cell? ⟨w.heap.size, 0, none⟩ = _ := cell_of_row w8 w.heap.size 0 _ 25 _ HR8.out; have d81 : w8.cell? ⟨w.heap.size, 1, none⟩ = _ := cell_of_row w8 w.heap.size 1 _ 25 _ HR8.out; have d82 : w8.cell? ⟨w.heap.size, 2, none⟩ = _ := cell_of_row w8 w.heap.size 2 _ 25 _ HR8.out; have d83 : w8.cell? ⟨w.heap.size, 3, none⟩ = _ := cell_of_row w8 w.heap.size 3 _ 25 _ HR8.out; have d84 : w8.cell? ⟨w.heap.size, 4, none⟩ = _ := cell_of_row w8 w.heap.size 4 _ 25 _ HR8.out; have d85 : w8.cell? ⟨w.heap.size, 5, none⟩ = _ := cell_of_row w8 w.heap.size 5 _ 25 _ HR8.out; have d80q : w8.cell? ⟨w.heap.size + 1, 0, none⟩ = _ := cell_of_row w8 (w.heap.size + 1) 0 _ 25 _ HS8.out; have d81q : w8.cell? ⟨w.heap.size + 1, 1, none⟩ = _ := cell_of_row w8 (w.heap.size + 1) 1 _ 25 _ HS8.out; have d82q : w8.cell? ⟨w.heap.size + 1, 2, none⟩ = _ := cell_of_row w8 (w.heap.size + 1) 2 _ 25 _ HS8.out; have d83q : w8.cell? ⟨w.heap.size + 1, 3, none⟩ = _ := cell_of_row w8 (w.heap.size + 1) 3 _ 25 _ HS8.out; have d84q : w8.cell? ⟨w.heap.size + 1, 4, none⟩ = _ := cell_of_row w8 (w.heap.size + 1) 4 _ 25 _ HS8.out; have d85q : w8.cell? ⟨w.heap.size + 1, 5, none⟩ = _ := cell_of_row w8 (w.heap.size + 1) 5 _ 25 _ HS8.out; clear hf8))
  go_upto_region 9 with (first
    | (go_at_call 18; refine (HT1.out _ (HG.out.fr HF8.out (fun _ h => by cases h))).mono ?_; rintro e w9 ⟨rfl, hf9⟩; have HF9 := Lib.hid (HF8.out.trans (hf9)); have HR9 := Lib.hid ((hf9).blk HR8.out List.not_mem_nil); have HS9 := Lib.hid ((hf9).blk HS8.out List.not_mem_nil); have d90 : w9.cell? ⟨w.heap.size, 0, none⟩ = _ := cell_of_row w9 w.heap.size 0 _ 25 _ HR9.out; have d91 : w9.cell? ⟨w.heap.size, 1, none⟩ = _ := cell_of_row w9 w.heap.size 1 _ 25 _ HR9.out; have d92 : w9.cell? ⟨w.heap.size, 2, none⟩ = _ := cell_of_row w9 w.heap.size 2 _ 25 _ HR9.out; have d93 : w9.cell? ⟨w.heap.size, 3, none⟩ = _ := cell_of_row w9 w.heap.size 3 _ 25 _ HR9.out; have d94 : w9.cell? ⟨w.heap.size, 4, none⟩ = _ := cell_of_row w9 w.heap.size 4 _ 25 _ HR9.out; have d95 : w9.cell? ⟨w.heap.size, 5, none⟩ = _ := cell_of_row w9 w.heap.size 5 _ 25 _ HR9.out; have d90q : w9.cell? ⟨w.heap.size + 1, 0, none⟩ = _ := cell_of_row w9 (w.heap.size + 1) 0 _ 25 _ HS9.out; have d91q : w9.cell? ⟨w.heap.size + 1, 1, none⟩ = _ := cell_of_row w9 (w.heap.size + 1) 1 _ 25 _ HS9.out; have d92q : w9.cell? ⟨w.heap.size + 1, 2, none⟩ = _ := cell_of_row w9 (w.heap.size + 1) 2 _ 25 _ HS9.out; have d93q : w9.cell? ⟨w.heap.size + 1, 3, none⟩ = _ := cell_of_row w9 (w.heap.size + 1) 3 _ 25 _ HS9.out; have d94q : w9.cell? ⟨w.heap.size + 1, 4, none⟩ = _ := cell_of_row w9 (w.heap.size + 1) 4 _ 25 _ HS9.out; have d95q : w9.cell? ⟨w.heap.size + 1, 5, none⟩ = _ := cell_of_row w9 (w.heap.size + 1) 5 _ 25 _ HS9.out; clear hf9))
  go_upto_region 10 with (first
    | (go_at_call 18; refine (HT2.out _ (HG.out.fr HF9.out (fun _ h => by cases h))).mono ?_; rintro e w10 ⟨rfl, hf10⟩; have HF10 := Lib.hid (HF9.out.trans (hf10)); have HR10 := Lib.hid ((hf10).blk HR9.out List.not_mem_nil); have HS10 := Lib.hid ((hf10).blk HS9.out List.not_mem_nil); have d100 : w10.cell? ⟨w.heap.size, 0, none⟩ = _ := cell_of_row w10 w.heap.size 0 _ 25 _ HR10.out; have d101 : w10.cell? ⟨w.heap.size, 1, none⟩ = _ := cell_of_row w10 w.heap.size 1 _ 25 _ HR10.out; have d102 : w10.cell? ⟨w.heap.size, 2, none⟩ = _ := cell_of_row w10 w.heap.size 2 _ 25 _ HR10.out; have d103 : w10.cell? ⟨w.heap.size, 3, none⟩ = _ := cell_of_row w10 w.heap.size 3 _ 25 _ HR10.out; have d104 : w10.cell? ⟨w.heap.size, 4, none⟩ = _ := cell_of_row w10 w.heap.size 4 _ 25 _ HR10.out; have d105 : w10.cell? ⟨w.heap.size, 5, none⟩ = _ := cell_of_row w10 w.heap.size 5 _ 25 _ HR10.out; have d100q : w10.cell? ⟨w.heap.size + 1, 0, none⟩ = _ := cell_of_row w10 (w.heap.size + 1) 0 _ 25 _ HS10.out; have d101q : w10.cell? ⟨w.heap.size + 1, 1, none⟩ = _ := cell_of_row w10 (w.heap.size + 1) 1 _ 25 _ HS10.out; have d102q : w10.cell? ⟨w.heap.size + 1, 2, none⟩ = _ := cell_of_row w10 (w.heap.size + 1) 2 _ 25 _ HS10.out; have d103q : w10.cell? ⟨w.heap.size + 1, 3, none⟩ = _ := cell_of_row w10 (w.heap.size + 1) 3 _ 25 _ HS10.out; have d104q : w10.cell? ⟨w.heap.size + 1, 4, none⟩ = _ := cell_of_row w10 (w.heap.size + 1) 4 _ 25 _ HS10.out; have d105q : w10.cell? ⟨w.heap.size + 1, 5, none⟩ = _ := cell_of_row w10 (w.heap.size + 1) 5 _ 25 _ HS10.out; clear hf10))
  clear HE1 HE2 HE3 HT1 HT2 HC HK HZ HZ' d00 d00q d01 d01q d02 d02q d03 d03q d04 d04q d05 d05q d10 d10q d11 d11q d12 d12q d13 d13q d14 d14q d15 d15q d20 d20q d21 d21q d22 d22q d23 d23q d24 d24q d25 d25q d30 d30q d31 d31q d32 d32q d33 d33q d34 d34q d35 d35q d40 d40q d41 d41q d42 d42q d43 d43q d44 d44q d45 d45q d50 d50q d51 d51q d52 d52q d53 d53q d54 d54q d55 d55q d60 d60q d61 d61q d62 d62q d63 d63q d64 d64q d65 d65q d70 d70q d71 d71q d72 d72q d73 d73q d74 d74q d75 d75q d80 d80q d81 d81q d82 d82q d83 d83q d84 d84q d85 d85q d90 d90q d91 d91q d92 d92q d93 d93q d94 d94q d95 d95q
  by_cases hk4 : k = 4
  case neg =>
    have k4 : (k == 4) = false := by rw [beq_eq_false_iff_ne]; exact hk4
    have hR := HRR.out
    simp only [k4, Bool.false_and, Bool.or_false] at hR
    subst hR
    clear hk4
    have hQ := HQ.out
    cases R with
    | false =>
      go_wp2_with fail
      go_ret
      exact ⟨rfl, HF10.out⟩
    | true =>
      go_wp2_with fail
      go_ret
      exact ⟨rfl, HF10.out⟩
  subst hk4
  by_cases hk4' : k' = 4
  case neg =>
    have k4' : (k' == 4) = false := by rw [beq_eq_false_iff_ne]; exact hk4'
    have hR := HRR.out
    simp only [k4', Bool.and_false, Bool.false_and, Bool.or_false] at hR
    subst hR
    clear hk4'
    have hQ := HQ.out
    cases R with
    | false =>
      go_wp2_with fail
      go_ret
      exact ⟨rfl, HF10.out⟩
    | true =>
      go_wp2_with fail
      go_ret
      exact ⟨rfl, HF10.out⟩
  subst hk4'
  cases hz : fz f with
  | false =>
    have hR := HRR.out
    simp only [hz, Bool.and_false, Bool.false_and, Bool.or_false] at hR
    have hz1 : (FloatKind.f64.format.order f 0 == some .eq) = false := hz
    subst hR
    clear hz
    have hQ := HQ.out
    cases R with
    | false =>
      go_wp2_with fail
      go_ret
      exact ⟨rfl, HF10.out⟩
    | true =>
      go_wp2_with fail
      go_ret
      exact ⟨rfl, HF10.out⟩
  | true =>
    have hz1 : (FloatKind.f64.format.order f 0 == some .eq) = true := hz
    cases hz' : fz f' with
    | false =>
      have hR := HRR.out
      simp only [hz, hz', Bool.and_false, Bool.or_false] at hR
      have hz2 : (FloatKind.f64.format.order f' 0 == some .eq) = false := hz'
      subst hR
      clear hz hz'
      have hQ := HQ.out
      cases R with
      | false =>
        go_wp2_with fail
        go_ret
        exact ⟨rfl, HF10.out⟩
      | true =>
        go_wp2_with fail
        go_ret
        exact ⟨rfl, HF10.out⟩
    | true =>
      have hR := HRR.out
      simp only [hz, hz', BEq.rfl, Bool.and_true, Bool.or_true] at hR
      have hz2 : (FloatKind.f64.format.order f' 0 == some .eq) = true := hz'
      subst hR
      clear hz hz'
      have hQ := HQ.out
      cases Q with
      | false =>
        go_wp2_with fail
        go_ret
        exact ⟨rfl, HF10.out⟩
      | true =>
        go_wp2_with fail
        go_ret
        exact ⟨rfl, HF10.out⟩
end Go.Proofs.YtaaogjhaokaggaaGreatDoor
