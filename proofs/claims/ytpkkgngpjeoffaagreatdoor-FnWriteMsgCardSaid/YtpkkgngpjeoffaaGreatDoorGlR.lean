/- PROVED HERE: a part of round r2's proofs (text GlR): lemmas and walks that later texts use. CONDITIONS: those written ahead of each theorem. -/
import Derived.Test.YtpkkgngpjeoffaaGreatDoorLawA
import Derived.Test.YtpkkgngpjeoffaaGreatDoorShelf
import Derived.Lib.AppendIntMem
namespace Go.Proofs.YtpkkgngpjeoffaaGreatDoor
open Go.RowKit Go.Sort

/-- WHAT THE PACKAGE-LEVEL VARIABLES HOLD (B: the heap's size when the law's call began; ea: where io.EOF points). -/
structure Gv (B : Nat) (ea : Addr) (w : World) : Prop where
  low : 8 ≤ B
  big : B ≤ w.heap.size
  pow : Lib.TabIs Tryz.prog w "internal/strconv.uint64pow10" .u64 Lib.pow10Tab
  eaB : ea.block < B
  err : w.cell? ⟨0, 0, none⟩ = some (.iface 199 (.pointer (some ea)))
  eaR : ∃ ca ta, w.heap[ea.block]? = some (.cells ca ta (0, 0))
theorem gPow : Tryz.prog.globalNamed "internal/strconv.uint64pow10" = some 7 := by kernel_rfl
theorem Gv.fr {B : Nat} {ea : Addr} {S : List Nat} {w w' : World} (h : Gv B ea w) (f : Fr S w w') (hS : ∀ s, s ∈ S → B ≤ s) : Gv B ea w' := by
  have hn : ∀ g, g < B → g ∉ S := fun g hg hm => by have := hS g hm; omega
  have hl := h.low
  exact ⟨h.low, Nat.le_trans h.big f.size, var?_below (f.below h.big hS) gPow (by omega) h.pow, h.eaB, f.cell h.err (hn 0 (by omega)),
    by obtain ⟨ca, ta, h1⟩ := h.eaR; exact ⟨ca, ta, f.blk h1 (hn _ h.eaB)⟩⟩
theorem Gv.base {B : Nat} {ea : Addr} {w : World} (h : Gv B ea w) : Gv w.heap.size ea w :=
  { h with low := Nat.le_trans h.low h.big, big := Nat.le_refl _, eaB := Nat.lt_of_lt_of_le h.eaB h.big }
end Go.Proofs.YtpkkgngpjeoffaaGreatDoor
namespace Go.Proofs.YtpkkgngpjeoffaaGreatDoor
open Go.RowKit Go.Sort

set_option maxHeartbeats 1000000 in
set_option maxRecDepth 100000 in
theorem appendUint_small (u : Nat) (hu : u < 100) (buf : Value) (l : List UInt8) (w : World) (hB : Own w 5 buf l) (hl : l.length ≤ 1000000000) :
    Calls Tryz.prog 104 #[buf, .int .u64 u, .int .i64 10] w (App w buf (l ++ Lib.decDigits u)) := by
  have hlen : (Lib.decDigits u).length ≤ 20 := by
    rw [Lib.decDigits_length]
    by_cases h10 : u < 10
    · rw [Lib.nDigits_small h10]; omega
    · rw [Lib.nDigits_big h10, Lib.nDigits_small (show u / 10 < 10 by omega)]; omega
  have HB := Lib.hid hB; clear hB
  obtain ⟨D, hD⟩ : ∃ D, D = Lib.decDigits u := ⟨_, rfl⟩
  have hsm : ∀ w, Calls Tryz.prog 115 #[.int .i64 u] w fun e w' => e = .returned (.string ⟨D.toArray⟩) ∧ w' = w := fun w => by rw [hD]; exact Tryz.internal_strconv_small u hu w
  rw [← hD] at hlen ⊢
  have HS := Lib.hid hsm; clear hsm hD
  go_enter Tryz.func104, Tryz.ntmps104
  go_wp2_with (first
    | (go_at_call 115; refine (HS.out _).mono ?_; rintro e w' ⟨rfl, rfl⟩)
    | (at_builtin; refine wpAppS _ rfl (.tmp 13) (.tmp 16) 9 rfl buf l D _ rfl rfl HB.out (srcStr _ ⟨D.toArray⟩) (by omega) ?_; intro v1 w1 ho1 hs1))
  go_ret
  exact App.mk ho1 hs1

theorem own_grow {w : World} {v : Value} {l : List UInt8} (h : Own w 5 v l) (k : Nat) (os : Array Obj) : Own (grow (w.drewN k) os) 5 v l :=
  h.fr (Fr.of_below (Lib.below_grow w.heap.size w (Nat.le_refl _) k os)) (by simp)

set_option maxHeartbeats 4000000 in
set_option maxRecDepth 100000 in
theorem appendUint_big {B : Nat} {ea : Addr} (u : Nat) (hu : 100 ≤ u) (hu64 : u < 18446744073709551616) (buf : Value) (l : List UInt8) (w : World) (hG : Gv B ea w) (hB : Own w 5 buf l) (hl : l.length ≤ 1000000000) :
    Calls Tryz.prog 104 #[buf, .int .u64 u, .int .i64 10] w (App w buf (l ++ Lib.decDigits u)) := by
  have hu1 : 1 ≤ u := by omega
  have hnd20 : Lib.nDigits u ≤ 20 := by have := Lib.numDigits_eq u hu1 hu64; split at this <;> omega
  have hal : Tryz.prog.arrayLen 244 = 24 := by kernel_rfl
  have hsl : ∀ W, (Instr.sliceAt 244 (.pointer (some ⟨w.heap.size, 0, none⟩)) none (some (.int .i64 (Lib.nDigits u : Int))) none).run Tryz.prog W = .ok (.slice (some ⟨w.heap.size, 0, none⟩) (Lib.nDigits u) 24) W := fun W => by
    rw [run_sliceAt_array_h W 244 ⟨w.heap.size, 0, none⟩ (by kernel_rfl) .i64 (Lib.nDigits u : Int) (by omega) (by rw [hal]; omega)]
    rw [hal]
    go_simp
  have hH0 := Lib.holds_zero0 w 244 (Lib.nDigits u) (by omega)
  have hfmt := Tryz.internal_strconv_formatBase10 w.heap.size 0 24 u (Array.replicate (Lib.nDigits u) 0) (w.alloc (.cells Lib.zeros24 244)) hH0 (by rw [Array.size_replicate]; exact Lib.lt_pow_nDigits u) hu64 (by rw [Array.size_replicate]; omega)
  rw [Array.size_replicate] at hfmt
  have HH0 := Lib.hid hH0
  have iu : (100 : Int) ≤ (u : Int) := by omega
  have hpw := hG.pow
  have HB := Lib.hid hB
  clear hH0 hal hG
  go_enter Tryz.func104, Tryz.ntmps104
  go_wp2_with (first
    | (go_at_call 116; refine (Tryz.internal_strconv_numDigits u hu1 hu64 _ (Lib.tabIs_alloc hpw _)).mono ?_; rintro e w' ⟨rfl, rfl⟩))
  refine hfmt.mono ?_
  rintro e w' ⟨rfl, k, v', dk, rfl, hF⟩
  have hcells : ∀ j u', (bvs (Lib.decDigits u))[j]? = some u' → ((putRow (fun (b : UInt8) => Value.int .u8 (b.toNat : Int)) (w.alloc (.cells Lib.zeros24 244)) w.heap.size 0 dk).drewN k).cell? ((⟨w.heap.size, 0, none⟩ : Addr).add j) = some u' := by
    intro j u' hj
    have hjl : j < (Lib.decDigits u).length := by
      have h5 := (List.getElem?_eq_some_iff.1 hj).1
      rwa [bvs_length] at h5
    rw [bvs_at hjl] at hj
    cases hj
    rw [bv, Lib.row_is_numeral hF j hjl, Lib.add_plain, World.cell?_drewN]
    exact cell?_putRow (fun (b : UInt8) => Value.int .u8 (b.toNat : Int)) _ w.heap.size 0 _ dk HH0.out (by rw [hF.size, Array.size_replicate]) j (by rw [hF.size]; rw [Lib.decDigits_length] at hjl; exact hjl)
  obtain ⟨os, eo⟩ := Lib.fin_at w (.cells Lib.zeros24 244) dk k 0
  have hown2 : Own ((putRow (fun (b : UInt8) => Value.int .u8 (b.toNat : Int)) (w.alloc (.cells Lib.zeros24 244)) w.heap.size 0 dk).drewN k) 5 buf l := by rw [eo]; exact own_grow HB.out k os
  have hfr2 : Fr [] w ((putRow (fun (b : UInt8) => Value.int .u8 (b.toNat : Int)) (w.alloc (.cells Lib.zeros24 244)) w.heap.size 0 dk).drewN k) := by rw [eo]; exact Fr.of_below (Lib.below_grow w.heap.size w (Nat.le_refl _) k os)
  have hlD : (Lib.decDigits u).length = Lib.nDigits u := Lib.decDigits_length u
  have hsrc : Src Tryz.prog 1 42 (.slice (some ⟨w.heap.size, 0, none⟩) (Lib.nDigits u) 24) (Lib.decDigits u).length (bvs (Lib.decDigits u)) ((putRow (fun (b : UInt8) => Value.int .u8 (b.toNat : Int)) (w.alloc (.cells Lib.zeros24 244)) w.heap.size 0 dk).drewN k) := by
    rw [← hlD]
    exact Src.ofSlice _ (e' := 5) u42 ⟨w.heap.size, 0, none⟩ _ 24 (bvs (Lib.decDigits u)) (by rw [bvs_length, Nat.mul_one]) hcells (bvs_one _)
  generalize (putRow (fun (b : UInt8) => Value.int .u8 (b.toNat : Int)) (w.alloc (.cells Lib.zeros24 244)) w.heap.size 0 dk).drewN k = W2 at hcells hown2 hfr2 hsrc ⊢
  clear eo HH0 hfmt hcells
  have HO2 := Lib.hid hown2; clear hown2
  have HS2 := Lib.hid hsrc; clear hsrc hlD
  go_wp2_with (at_builtin; refine wpAppS W2 rfl (.tmp 24) (.tmp 26) 42 rfl buf l (Lib.decDigits u) _ rfl rfl HO2.out HS2.out (by rw [Lib.decDigits_length]; omega) ?_; intro v1 w1 ho1 hs1)
  go_ret
  exact App.mk ho1 (Stp.pre hfr2 hs1)

theorem appendUint_any {B : Nat} {ea : Addr} (u : Nat) (hu64 : u < 18446744073709551616) (buf : Value) (l : List UInt8) (w : World) (hG : Gv B ea w) (hB : Own w 5 buf l) (hl : l.length ≤ 1000000000) :
    Calls Tryz.prog 104 #[buf, .int .u64 u, .int .i64 10] w (App w buf (l ++ Lib.decDigits u)) := by
  by_cases h : u < 100
  · exact appendUint_small u h buf l w hB hl
  · exact appendUint_big u (by omega) hu64 buf l w hG hB hl

set_option maxHeartbeats 1000000 in
theorem appendIntI_any {B : Nat} {ea : Addr} (n : Int) (h0 : -9223372036854775808 ≤ n) (h1 : n ≤ 9223372036854775807) (buf : Value) (l : List UInt8) (w : World) (hG : Gv B ea w) (hB : Own w 5 buf l) (hl : l.length ≤ 900000000) (hBb : ∀ g, buf.ownBlock = some g → B ≤ g) :
    Calls Tryz.prog 92 #[buf, .int .i64 n, .int .i64 10] w (App w buf (l ++ Lib.itoa n)) := by
  have HB := Lib.hid hB; clear hB
  have HG := Lib.hid hG; clear hG
  have HBb := Lib.hid hBb; clear hBb
  by_cases hn : n < 0
  · obtain ⟨u, hu⟩ : ∃ u : Nat, (u : Int) = -n := ⟨n.natAbs, by omega⟩
    have hit : Lib.itoa n = [45] ++ Lib.decDigits u := by
      have : n.natAbs = u := by omega
      rw [Lib.itoa, if_pos hn, this]; rfl
    rw [hit]
    clear hit
    have hw1 : IntKind.u64.wrap (-(IntKind.u64.wrap n)) = (u : Int) := by rw [IntKind.wrap_u64, IntKind.wrap_u64]; omega
    have hu64 : u < 18446744073709551616 := by omega
    have hl1 : (l ++ [45]).length ≤ 1000000000 := by simp; omega
    have HU := Lib.hid hu; clear hu
    go_enter Tryz.func92, Tryz.ntmps92
    go_wp2_with (first
      | (at_builtin; refine wpApp1 (o := ⟨some 14, _, _, _, _, _⟩) _ rfl (.tmp 12) (.tmp 13) rfl buf l _ 45 rfl rfl rfl HB.out (by omega) ?_; intro v1 w1 ho1 hs1; have HO1 := Lib.hid ho1; clear ho1))
    refine (appendUint_any u hu64 v1 _ w1 (HG.out.fr hs1.1 (fun s hs => HBb.out s (by simpa using hs))) HO1.out hl1).mono ?_
    rintro e w2 ⟨d, rfl, ho2, hs2⟩
    have HO2 := Lib.hid ho2; clear ho2
    go_wp2
    go_ret
    exact App.mk (by simpa using HO2.out) (hs1.trans hs2)
  · obtain ⟨u, rfl⟩ := Int.eq_ofNat_of_zero_le (show 0 ≤ n by omega)
    have hit : Lib.itoa (u : Int) = Lib.decDigits u := by rw [Lib.itoa, if_neg hn]; rfl
    rw [hit]
    clear hit
    go_enter Tryz.func92, Tryz.ntmps92
    go_wp2_with (go_at_call 104; refine (appendUint_any u (by omega) buf l _ HG.out HB.out (by omega)).mono ?_; rintro e w1 ⟨d, rfl, ho1, hs1⟩)
    go_ret
    exact App.mk ho1 hs1
theorem appendInt_any {B : Nat} {ea : Addr} (n : Int) (h0 : -9223372036854775808 ≤ n) (h1 : n ≤ 9223372036854775807) (buf : Value) (l : List UInt8) (w : World) (hG : Gv B ea w) (hB : Own w 5 buf l) (hl : l.length ≤ 900000000) (hBb : ∀ g, buf.ownBlock = some g → B ≤ g) :
    Calls Tryz.prog 70 #[buf, .int .i64 n, .int .i64 10] w (App w buf (l ++ Lib.itoa n)) := by
  have h := appendIntI_any n h0 h1 buf l w hG hB hl hBb
  have H := Lib.hid h
  clear h hG hB hBb
  go_enter Tryz.func70, Tryz.ntmps70
  go_wp2_with (go_at_call 92; refine H.out.mono ?_; rintro e w1 ⟨d, rfl, ho1, hs1⟩)
  go_ret
  exact App.mk ho1 hs1
end Go.Proofs.YtpkkgngpjeoffaaGreatDoor
