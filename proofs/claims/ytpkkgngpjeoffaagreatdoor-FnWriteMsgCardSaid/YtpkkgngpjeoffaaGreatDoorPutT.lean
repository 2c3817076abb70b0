/- PROVED HERE: a part of round r2's proofs (text PutT): lemmas and walks that later texts use. CONDITIONS: those written ahead of each theorem. -/
import Derived.Test.YtpkkgngpjeoffaaGreatDoorPoolT
import Derived.Sort.AtCall
import Derived.Defers
namespace Go.Proofs.YtpkkgngpjeoffaaGreatDoor
open Go.RowKit

theorem u172 : Tryz.prog.underlying 172 = some (.slice 87) := Tryz.underlying172
/-- What put leaves: the slice dropped, or behind the others. -/
def PutQ (w : World) (bp q g c : Nat) (pv : Value) (n : Nat) (cs : List Value) (w' : World) : Prop :=
  Fr (bp :: q :: pv.ownBlock.toList) w w' ∧
  ((∃ u : Int, w'.heap[bp]? = some (.cells #[.int .i64 u, .int .i64 10000000, pv] 174 (0, 0)) ∧ OwnC w' 87 1 pv n cs) ∨
   (∃ (u : Int) (pv' : Value), w'.heap[bp]? = some (.cells #[.int .i64 u, .int .i64 10000000, pv'] 174 (0, 0)) ∧ w'.heap[q]? = some (.cells #[.slice (some ⟨g, 0, none⟩) 0 c] 42 (0, 0)) ∧ OwnC w' 87 1 pv' (n + 1) (cs ++ [.pointer (some ⟨q, 0, none⟩)]) ∧ (pv'.ownBlock = pv.ownBlock ∨ ∃ k, pv'.ownBlock = some k ∧ w.heap.size ≤ k)))
set_option maxRecDepth 100000 in
set_option maxHeartbeats 2000000 in
theorem put_any (bp q g m c : Nat) (u : Int) (pv : Value) (n : Nat) (cs : List Value) (w : World) (hb : w.heap[bp]? = some (.cells #[.int .i64 u, .int .i64 10000000, pv] 174 (0, 0))) (hO : OwnC w 87 1 pv n cs) (hn : n ≤ 1000)
    (hq : w.heap[q]? = some (.cells #[.slice (some ⟨g, 0, none⟩) m c] 42 (0, 0))) (_hmc : m ≤ c) (hqb : q ≠ bp) (hpb : pv.ownBlock ≠ some bp) (hpq : pv.ownBlock ≠ some q) :
    Calls Tryz.prog 40 #[.pointer (some ⟨bp, 0, none⟩), .pointer (some ⟨q, 0, none⟩)] w fun e w' => e = .returned (.tuple #[]) ∧ PutQ w bp q g c pv n cs w' := by
  have b0 := cell_of_row w bp 0 _ 174 _ hb
  have b1 := cell_of_row w bp 1 _ 174 _ hb
  have g0 := frozen_of_row w bp 0 _ 174 hb
  have q0 := cell_of_row w q 0 _ 42 _ hq
  obtain ⟨U, hU⟩ : ∃ U, U = wrap64 (u + (c : Int)) := ⟨_, rfl⟩
  have hU' : wrap64 (u + (c : Int)) = U := hU.symm
  have mixed : Tryz.prog.follows .mixedOrders = true := by kernel_rfl
  obtain ⟨i87, hi87, hz87, hs87, hb87⟩ : ∃ i, Tryz.prog.info? 87 = some i ∧ i.zero = some (.pointer none) ∧ i.size = 1 ∧ i.bytes ≤ 1000 := by
    have h := Tryz.info87
    cases hi : Tryz.prog.info? 87 with
    | none => rw [hi] at h; cases h
    | some i => rw [hi] at h; simp at h; exact ⟨i, rfl, h.1, h.2.1, h.2.2⟩
  have HB := Lib.hid hb
  have HO := Lib.hid hO
  have HQ := Lib.hid hq
  have HPB := Lib.hid hpb
  have HPQ := Lib.hid hpq
  have hne : (bp == q) = false := by rw [beq_eq_false_iff_ne]; exact fun e => hqb e.symm
  clear hb hO hq hpb hpq hU
  go_enter Tryz.func40, Tryz.ntmps40
  go_upto_region 0 with fail
  go_region
  obtain ⟨w1, hw1⟩ : ∃ w1, w1 = (w.setCell ⟨bp, 0, none⟩ (.int .i64 U)).drew := ⟨_, rfl⟩
  rw [← hw1]
  have hf1 : Fr [bp] w w1 := by rw [hw1]; exact ((Fr.refl [bp] w).setCell (.inl (by simp)) _).drew
  have hb1 : w1.heap[bp]? = some (.cells #[.int .i64 U, .int .i64 10000000, pv] 174 (0, 0)) := by rw [hw1]; exact heap_setCell_same w bp 0 _ 174 _ HB.out
  have hq1 := hf1.blk HQ.out (by simp; exact hqb)
  have hO1 := HO.out.fr hf1 (fun k hk => by simp; intro e; exact HPB.out (by rw [hk, e]))
  have HF1 := Lib.hid hf1
  have HB1 := Lib.hid hb1
  have HQ1 := Lib.hid hq1
  have HO1 := Lib.hid hO1
  have k0 := cell_of_row w1 bp 0 _ 174 _ hb1
  have k1 := cell_of_row w1 bp 1 _ 174 _ hb1
  have k2 := cell_of_row w1 bp 2 _ 174 _ hb1
  have l0 := frozen_of_row w1 bp 0 _ 174 hb1
  have l2 := frozen_of_row w1 bp 2 _ 174 hb1
  have r0 := cell_of_row w1 q 0 _ 42 _ hq1
  have s0 := frozen_of_row w1 q 0 _ 42 hq1
  clear hw1 hf1 hb1 hq1 hO1 b0 b1 g0 q0 hU'
  go_upto_region 1 with fail
  by_cases hgt : 10000000 < U
  · have d1 : decide (U > 10000000) = true := decide_eq_true hgt
    go_quiet (fail)
    go_wp2_with fail
    refine bodyPost_ret (results_none rfl _ _ _) rfl ?_
    refine ⟨rfl, ?_, .inl ⟨0, ?_, ?_⟩⟩
    · exact (((HF1.out.sub (by simp)).drewN nq).setCell (.inl (by simp)) _)
    · exact heap_setCell_same (w1.drewN nq) bp 0 _ 174 _ HB1.out
    · exact HO1.out.fr (((Fr.refl [bp] w1).drewN nq).setCell (.inl (by simp)) _) (fun k hk => by simp; intro e; exact HPB.out (by rw [hk, e]))
  · have d1 : decide (U > 10000000) = false := decide_eq_false hgt
    go_quiet (fail)
    obtain ⟨w2, hw2⟩ : ∃ w2, w2 = (w1.drewN nq).setCell ⟨q, 0, none⟩ (.slice (some ⟨g, 0, none⟩) 0 c) := ⟨_, rfl⟩
    have hf2 : Fr [q] w1 w2 := by rw [hw2]; exact ((Fr.refl [q] w1).drewN nq).setCell (.inl (by simp)) _
    have hb2 := hf2.blk HB1.out (by simp; exact fun e => hqb e.symm)
    have hq2 : w2.heap[q]? = some (.cells #[.slice (some ⟨g, 0, none⟩) 0 c] 42 (0, 0)) := by rw [hw2]; exact heap_setCell_same (w1.drewN nq) q 0 _ 42 _ HQ1.out
    have hO2 := HO1.out.fr hf2 (fun k hk => by simp; intro e; exact HPQ.out (by rw [hk, e]))
    have HF2 := Lib.hid hf2
    have HB2 := Lib.hid hb2
    have HQ2 := Lib.hid hq2
    have HO2 := Lib.hid hO2
    have HW2 := Lib.hid hw2
    go_upto_region 4 with fail
    rw [← HW2.out]
    clear k0 k1 k2 l0 l2 r0 s0
    have k2 := cell_of_row w2 bp 2 _ 174 _ hb2
    have l2 := frozen_of_row w2 bp 2 _ 174 hb2
    clear hf2 hb2 hq2 hO2 hw2
    go_wp2_with (at_builtin; refine wpApp1C w2 rfl (.tmp 37) (.tmp 39) 172 rfl 87 i87 _ u172 hi87 hz87 1 hs87 hb87 rfl pv n cs #[.pointer (some ⟨q, 0, none⟩)] rfl (by intro t ht; simp at ht; subst ht; rfl) rfl rfl HO2.out (by omega) ?_; intro v4 w4 ho4 hf4 hd4; obtain ⟨a4, c4, rfl⟩ := ho4.shape; have HO4 := Lib.hid ho4; have HF4 := Lib.hid hf4; have HD4 := Lib.hid hd4; have HB4 := Lib.hid (hf4.blk HB2.out (fun hm => HPB.out (by simpa using hm))); have z2 := cell_of_row w4 bp 2 _ 174 _ HB4.out; have y2 := frozen_of_row w4 bp 2 _ 174 HB4.out; clear ho4 hf4 hd4)
    go_end0
    have hft : Fr (bp :: q :: pv.ownBlock.toList) w w4 := ((HF1.out.sub (by simp)).trans (HF2.out.sub (by simp))).trans (HF4.out.sub (fun s hs => .inl (by simp at hs; simp [hs])))
    refine ⟨rfl, hft.setCell (.inl (by simp)) _, .inr ⟨U, .slice a4 (n + 1) c4, ?_, ?_, ?_, ?_⟩⟩
    · exact heap_setCell_same w4 bp 2 _ 174 _ HB4.out
    · have h4 := HF4.out.blk HQ2.out (fun hm => HPQ.out (by simpa using hm))
      exact ((Fr.refl [bp] w4).setCell (.inl (by simp)) _).blk h4 (by simp; exact hqb)
    · refine HO4.out.fr ((Fr.refl [bp] w4).setCell (.inl (by simp)) _) (fun k hk => ?_)
      simp
      rintro rfl
      rcases HD4.out with h | ⟨t, h, hle⟩
      · exact HPB.out (by rw [← h]; exact hk)
      · rw [h] at hk
        have : t = k := by simpa using hk
        have hlt := (Array.getElem?_eq_some_iff.1 HB2.out).1
        omega
    · rcases HD4.out with h | ⟨t, h, hle⟩
      · exact .inl h
      · exact .inr ⟨t, h, by have := HF1.out.size; have := HF2.out.size; omega⟩
set_option maxRecDepth 100000 in
set_option maxHeartbeats 2000000 in
theorem put_anyD (md : FrameMode) (bp q g m c : Nat) (u : Int) (pv : Value) (n : Nat) (cs : List Value) (w : World) (hb : w.heap[bp]? = some (.cells #[.int .i64 u, .int .i64 10000000, pv] 174 (0, 0))) (hO : OwnC w 87 1 pv n cs) (hn : n ≤ 1000)
    (hq : w.heap[q]? = some (.cells #[.slice (some ⟨g, 0, none⟩) m c] 42 (0, 0))) (_hmc : m ≤ c) (hqb : q ≠ bp) (hpb : pv.ownBlock ≠ some bp) (hpq : pv.ownBlock ≠ some q) :
    CallsD Tryz.prog 40 #[.pointer (some ⟨bp, 0, none⟩), .pointer (some ⟨q, 0, none⟩)] md w fun e u' w' => u' = md ∧ (e = .returned (.tuple #[]) ∧ PutQ w bp q g c pv n cs w') := by
  have b0 := cell_of_row w bp 0 _ 174 _ hb
  have b1 := cell_of_row w bp 1 _ 174 _ hb
  have g0 := frozen_of_row w bp 0 _ 174 hb
  have q0 := cell_of_row w q 0 _ 42 _ hq
  obtain ⟨U, hU⟩ : ∃ U, U = wrap64 (u + (c : Int)) := ⟨_, rfl⟩
  have hU' : wrap64 (u + (c : Int)) = U := hU.symm
  have mixed : Tryz.prog.follows .mixedOrders = true := by kernel_rfl
  obtain ⟨i87, hi87, hz87, hs87, hb87⟩ : ∃ i, Tryz.prog.info? 87 = some i ∧ i.zero = some (.pointer none) ∧ i.size = 1 ∧ i.bytes ≤ 1000 := by
    have h := Tryz.info87
    cases hi : Tryz.prog.info? 87 with
    | none => rw [hi] at h; cases h
    | some i => rw [hi] at h; simp at h; exact ⟨i, rfl, h.1, h.2.1, h.2.2⟩
  have HB := Lib.hid hb
  have HO := Lib.hid hO
  have HQ := Lib.hid hq
  have HPB := Lib.hid hpb
  have HPQ := Lib.hid hpq
  have hne : (bp == q) = false := by rw [beq_eq_false_iff_ne]; exact fun e => hqb e.symm
  clear hb hO hq hpb hpq hU
  go_enter_d Tryz.func40, Tryz.ntmps40
  go_upto_region 0 with fail
  go_region
  obtain ⟨w1, hw1⟩ : ∃ w1, w1 = (w.setCell ⟨bp, 0, none⟩ (.int .i64 U)).drew := ⟨_, rfl⟩
  rw [← hw1]
  have hf1 : Fr [bp] w w1 := by rw [hw1]; exact ((Fr.refl [bp] w).setCell (.inl (by simp)) _).drew
  have hb1 : w1.heap[bp]? = some (.cells #[.int .i64 U, .int .i64 10000000, pv] 174 (0, 0)) := by rw [hw1]; exact heap_setCell_same w bp 0 _ 174 _ HB.out
  have hq1 := hf1.blk HQ.out (by simp; exact hqb)
  have hO1 := HO.out.fr hf1 (fun k hk => by simp; intro e; exact HPB.out (by rw [hk, e]))
  have HF1 := Lib.hid hf1
  have HB1 := Lib.hid hb1
  have HQ1 := Lib.hid hq1
  have HO1 := Lib.hid hO1
  have k0 := cell_of_row w1 bp 0 _ 174 _ hb1
  have k1 := cell_of_row w1 bp 1 _ 174 _ hb1
  have k2 := cell_of_row w1 bp 2 _ 174 _ hb1
  have l0 := frozen_of_row w1 bp 0 _ 174 hb1
  have l2 := frozen_of_row w1 bp 2 _ 174 hb1
  have r0 := cell_of_row w1 q 0 _ 42 _ hq1
  have s0 := frozen_of_row w1 q 0 _ 42 hq1
  clear hw1 hf1 hb1 hq1 hO1 b0 b1 g0 q0 hU'
  go_upto_region 1 with fail
  by_cases hgt : 10000000 < U
  · have d1 : decide (U > 10000000) = true := decide_eq_true hgt
    go_quiet (fail)
    go_wp2_with fail
    refine bodyPost_ret (results_none rfl _ _ _) rfl ?_
    refine ⟨rfl, ?_, .inl ⟨0, ?_, ?_⟩⟩
    · exact (((HF1.out.sub (by simp)).drewN nq).setCell (.inl (by simp)) _)
    · exact heap_setCell_same (w1.drewN nq) bp 0 _ 174 _ HB1.out
    · exact HO1.out.fr (((Fr.refl [bp] w1).drewN nq).setCell (.inl (by simp)) _) (fun k hk => by simp; intro e; exact HPB.out (by rw [hk, e]))
  · have d1 : decide (U > 10000000) = false := decide_eq_false hgt
    go_quiet (fail)
    obtain ⟨w2, hw2⟩ : ∃ w2, w2 = (w1.drewN nq).setCell ⟨q, 0, none⟩ (.slice (some ⟨g, 0, none⟩) 0 c) := ⟨_, rfl⟩
    have hf2 : Fr [q] w1 w2 := by rw [hw2]; exact ((Fr.refl [q] w1).drewN nq).setCell (.inl (by simp)) _
    have hb2 := hf2.blk HB1.out (by simp; exact fun e => hqb e.symm)
    have hq2 : w2.heap[q]? = some (.cells #[.slice (some ⟨g, 0, none⟩) 0 c] 42 (0, 0)) := by rw [hw2]; exact heap_setCell_same (w1.drewN nq) q 0 _ 42 _ HQ1.out
    have hO2 := HO1.out.fr hf2 (fun k hk => by simp; intro e; exact HPQ.out (by rw [hk, e]))
    have HF2 := Lib.hid hf2
    have HB2 := Lib.hid hb2
    have HQ2 := Lib.hid hq2
    have HO2 := Lib.hid hO2
    have HW2 := Lib.hid hw2
    go_upto_region 4 with fail
    rw [← HW2.out]
    clear k0 k1 k2 l0 l2 r0 s0
    have k2 := cell_of_row w2 bp 2 _ 174 _ hb2
    have l2 := frozen_of_row w2 bp 2 _ 174 hb2
    clear hf2 hb2 hq2 hO2 hw2
    go_wp2_with (at_builtin; refine wpApp1C w2 rfl (.tmp 37) (.tmp 39) 172 rfl 87 i87 _ u172 hi87 hz87 1 hs87 hb87 rfl pv n cs #[.pointer (some ⟨q, 0, none⟩)] rfl (by intro t ht; simp at ht; subst ht; rfl) rfl rfl HO2.out (by omega) ?_; intro v4 w4 ho4 hf4 hd4; obtain ⟨a4, c4, rfl⟩ := ho4.shape; have HO4 := Lib.hid ho4; have HF4 := Lib.hid hf4; have HD4 := Lib.hid hd4; have HB4 := Lib.hid (hf4.blk HB2.out (fun hm => HPB.out (by simpa using hm))); have z2 := cell_of_row w4 bp 2 _ 174 _ HB4.out; have y2 := frozen_of_row w4 bp 2 _ 174 HB4.out; clear ho4 hf4 hd4)
    go_end0
    have hft : Fr (bp :: q :: pv.ownBlock.toList) w w4 := ((HF1.out.sub (by simp)).trans (HF2.out.sub (by simp))).trans (HF4.out.sub (fun s hs => .inl (by simp at hs; simp [hs])))
    refine ⟨rfl, hft.setCell (.inl (by simp)) _, .inr ⟨U, .slice a4 (n + 1) c4, ?_, ?_, ?_, ?_⟩⟩
    · exact heap_setCell_same w4 bp 2 _ 174 _ HB4.out
    · have h4 := HF4.out.blk HQ2.out (fun hm => HPQ.out (by simpa using hm))
      exact ((Fr.refl [bp] w4).setCell (.inl (by simp)) _).blk h4 (by simp; exact hqb)
    · refine HO4.out.fr ((Fr.refl [bp] w4).setCell (.inl (by simp)) _) (fun k hk => ?_)
      simp
      rintro rfl
      rcases HD4.out with h | ⟨t, h, hle⟩
      · exact HPB.out (by rw [← h]; exact hk)
      · rw [h] at hk
        have : t = k := by simpa using hk
        have hlt := (Array.getElem?_eq_some_iff.1 HB2.out).1
        omega
    · rcases HD4.out with h | ⟨t, h, hle⟩
      · exact .inl h
      · exact .inr ⟨t, h, by have := HF1.out.size; have := HF2.out.size; omega⟩
end Go.Proofs.YtpkkgngpjeoffaaGreatDoor
