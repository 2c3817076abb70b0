import Derived.Test.YtaaogjhaokaggaaGreatDoorFltZ
import Derived.Test.YtaaogjhaokaggaaGreatDoorQuo3
namespace Go.Proofs.YtaaogjhaokaggaaGreatDoor
open Go.RowKit Go.Sort

set_option maxRecDepth 100000 in
theorem formatUint_74 (u : Nat) (hu64 : u < 18446744073709551616) {B : Nat} {ea : Addr} (w : World) (hG : Gv B ea w) :
    Calls Tryz.prog 74 #[.int .u64 u, .int .i64 10] w fun e w' => e = .returned (.string ⟨(Lib.decDigits u).toArray⟩) ∧ Fr [] w w' := by
  by_cases hu : u < 100
  · have hi : (u : Int) < 100 := by omega
    clear hG
    go_enter Tryz.func74, Tryz.ntmps74
    go_wp2_with (go_at_call 95; refine (Tryz.internal_strconv_small u hu _).mono ?_; rintro e w' ⟨rfl, rfl⟩)
    go_ret
    exact ⟨rfl, Fr.refl _ _⟩
  · have hu1 : 1 ≤ u := by omega
    have htab := hG.pow
    have HT := Lib.hid htab
    have hnd20 : Lib.nDigits u ≤ 20 := Lib.nDigits_le20 u hu64
    have hal : Tryz.prog.arrayLen 132 = 24 := by simp [Program.arrayLen, Tryz.underlying132]
    have hsl1 : ∀ W, (Instr.sliceAt 132 (.pointer (some ⟨w.heap.size, 0, none⟩)) none (some (.int .i64 (Lib.nDigits u : Int))) none).run Tryz.prog W = .ok (.slice (some ⟨w.heap.size, 0, none⟩) (Lib.nDigits u) 24) W := fun W => by
      rw [run_sliceAt_array_h W 132 ⟨w.heap.size, 0, none⟩ (by simp [Program.arrayLen, Program.elem, Tryz.underlying132]) .i64 (Lib.nDigits u : Int) (by omega) (by rw [hal]; omega)]
      go_simp
    have hH0 := Lib.holds_zero0 w 132 (Lib.nDigits u) (by omega)
    have hfmt := Tryz.internal_strconv_formatBase10 w.heap.size 0 24 u (Array.replicate (Lib.nDigits u) 0) (w.alloc (.cells Lib.zeros24 132)) hH0 (by rw [Array.size_replicate]; exact Lib.lt_pow_nDigits u) hu64 (by rw [Array.size_replicate]; omega)
    rw [Array.size_replicate] at hfmt
    have HH0 := Lib.hid hH0
    have iu : (100 : Int) ≤ (u : Int) := by omega
    clear hH0 hal hG htab
    go_enter Tryz.func74, Tryz.ntmps74
    go_wp2_with (first
      | (go_at_call 96; refine (Tryz.internal_strconv_numDigits u hu1 hu64 _ (Lib.tabIs_alloc HT.out _)).mono ?_; rintro e w' ⟨rfl, rfl⟩))
    go_at_call 97
    refine hfmt.mono ?_
    rintro e w' ⟨rfl, k, v', dk, rfl, hF⟩
    have hcv : (convert 66 9 (.slice (some ⟨w.heap.size, 0, none⟩) (Lib.nDigits u) 24)).run Tryz.prog ((putRow (fun (b : UInt8) => Value.int .u8 (b.toNat : Int)) (w.alloc (.cells Lib.zeros24 132)) w.heap.size 0 dk).drewN k) = .ok (.string ⟨(Lib.decDigits u).toArray⟩) ((putRow (fun (b : UInt8) => Value.int .u8 (b.toNat : Int)) (w.alloc (.cells Lib.zeros24 132)) w.heap.size 0 dk).drewN k) := by
      have h := run_convert_bytes_back (P := Tryz.prog) ((putRow (fun (b : UInt8) => Value.int .u8 (b.toNat : Int)) (w.alloc (.cells Lib.zeros24 132)) w.heap.size 0 dk).drewN k) 66 9 5 ⟨w.heap.size, 0, none⟩ 24 (Lib.decDigits u) u66 Tryz.underlying5 u9 (fun j hj => by
        rw [Lib.row_is_numeral hF j hj, Lib.add_plain, World.cell?_drewN]
        exact cell?_putRow (fun (b : UInt8) => Value.int .u8 (b.toNat : Int)) _ w.heap.size 0 _ dk HH0.out (by rw [hF.size, Array.size_replicate]) j (by rw [hF.size]; rw [Lib.decDigits_length] at hj; exact hj))
      rw [Lib.decDigits_length] at h
      exact h
    have hfr : Fr [] w ((putRow (fun (b : UInt8) => Value.int .u8 (b.toNat : Int)) (w.alloc (.cells Lib.zeros24 132)) w.heap.size 0 dk).drewN k) :=
      ((Fr.refl [] w).alloc (.cells Lib.zeros24 132)).step (fr_putRow (w.alloc (.cells Lib.zeros24 132)) w.heap.size dk k) (fun t ht => .inr (by simp at ht; subst ht; exact Nat.le_refl _))
    have HFR := Lib.hid hfr; clear hfr
    go_wp2
    go_ret
    exact ⟨rfl, HFR.out⟩
set_option maxRecDepth 100000 in
theorem formatUint_any (u : Nat) (hu64 : u < 18446744073709551616) {B : Nat} {ea : Addr} (w : World) (hG : Gv B ea w) :
    Calls Tryz.prog 39 #[.int .u64 u, .int .i64 10] w fun e w' => e = .returned (.string ⟨(Lib.decDigits u).toArray⟩) ∧ Fr [] w w' := by
  have H := Lib.hid (formatUint_74 u hu64 w hG)
  clear hG
  go_enter Tryz.func39, Tryz.ntmps39
  go_wp2_with (go_at_call 74; refine H.out.mono ?_; rintro e w1 ⟨rfl, hf⟩)
  go_ret
  exact ⟨rfl, hf⟩
set_option maxRecDepth 100000 in
theorem formatFloat_75 (n : Nat) (hn : finOk n) {B : Nat} {ea : Addr} (w : World) (hG : Gv B ea w) :
    Calls Tryz.prog 75 #[.float .f64 n, .int .u8 103, .int .i64 (-1), .int .i64 64] w fun e w' => e = .returned (.string ⟨(fTx n).toArray⟩) ∧ Fr [] w w' := by
  have H := Lib.hid (ftoa_any n hn B ea)
  have HG := Lib.hid hG; clear hG hn
  have hmax : max (3 : Int) 24 = 24 := by decide
  go_enter Tryz.func75, Tryz.ntmps75
  go_wp2_with (first
    | (at_make; refine wpMake _ rfl (.const (.int .i64 0)) (.tmp 25) rfl _ _ 0 24 rfl rfl rfl rfl (by decide) (by decide) ?_; intro w1 hr1 hf1; have HF1 := Lib.hid hf1; have HO1 : Hid (Own w1 5 (.slice (some ⟨w.heap.size, 0, none⟩) 0 24) []) := Lib.hid (.inr ⟨_, _, rfl, _, _, hr1, fun j _ h => by simp at h, by rw [zbytes_size]; exact Nat.le_refl _, by simp, by decide, by simp [bvs]⟩); clear hr1 hf1)
    | (go_at_call 112; refine (H.out _ [] _ (HG.out.fr HF1.out (fun _ h => by cases h)) HO1.out (by simp)).mono ?_; rintro e w2 ⟨v2, rfl, ho2, hs2⟩; have HO2 := Lib.hid ho2; have hcv := conv_own ho2; have HS2 := Lib.hid hs2; clear ho2 hs2))
  go_ret
  exact ⟨by simp, HF1.out.step HS2.out.1 (fun t ht => .inr (by simp [Value.ownBlock] at ht; omega))⟩
set_option maxRecDepth 100000 in
theorem formatFloat_any (n : Nat) (hn : finOk n) {B : Nat} {ea : Addr} (w : World) (hG : Gv B ea w) :
    Calls Tryz.prog 40 #[.float .f64 n, .int .u8 103, .int .i64 (-1), .int .i64 64] w fun e w' => e = .returned (.string ⟨(fTx n).toArray⟩) ∧ Fr [] w w' := by
  have H := Lib.hid (formatFloat_75 n hn w hG)
  clear hG hn
  go_enter Tryz.func40, Tryz.ntmps40
  go_wp2_with (go_at_call 75; refine H.out.mono ?_; rintro e w1 ⟨rfl, hf⟩)
  go_ret
  exact ⟨rfl, hf⟩
end Go.Proofs.YtaaogjhaokaggaaGreatDoor
