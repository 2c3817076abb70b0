/- PROVED HERE: a part of round r2's proofs (text RdP): lemmas and walks that later texts use. CONDITIONS: those written ahead of each theorem. -/
import Derived.Test.YtpkkgngpjeoffaaGreatDoorSzT
namespace Go.Proofs.YtpkkgngpjeoffaaGreatDoor
open Go.RowKit

set_option maxRecDepth 100000 in
set_option maxHeartbeats 1000000 in
/-- A reader with sizes. -/
theorem read_piece {B : Nat} (r g cap : Nat) (S : ByteArray) (a : Nat) (w : World) (sv : Value) (sz : List Int) (hsv : SzS w B sv sz) (hsz : sz ≠ []) (_hB : B ≤ r) (_hBg : B ≤ g) (hat : a ≤ 1000000000) (hsl : sz.length ≤ 1000) (l : List UInt8)
    (hr : w.heap[r]? = some (.cells #[.string S, sv, .int .i64 a, .bool false] 82 (0, 0))) (hS : S.data.toList = l) (hl : l ≠ []) (hlen : l.length ≤ 1000000)
    (hO : Own w 5 (.slice (some ⟨g, 0, none⟩) 0 cap) []) (hcap : 1024 ≤ cap) :
    Calls Tryz.prog 200 #[.pointer (some ⟨r, 0, none⟩), .slice (some ⟨g, 0, none⟩) 1024 cap] w (RdQ w r g cap sv sz a l) := by
  obtain ⟨ao, sc, rfl, hsv⟩ := hsv
  obtain ⟨sg, so, rfl, hsg, hsc⟩ := hsv hsz
  obtain ⟨hk1, hk2⟩ := szAt_get hsz a
  have hsc' := hsc _ hk1
  rw [hk2] at hsc'
  obtain ⟨N, hN⟩ : ∃ N, N = sz.length := ⟨_, rfl⟩
  have hN1 : 1 ≤ N := by rw [hN]; exact List.length_pos_iff.2 hsz
  obtain ⟨k, hk⟩ : ∃ k, k = a % sz.length := ⟨_, rfl⟩
  have hk3 : Int.tmod (a : Int) (N : Int) = (k : Int) := by rw [hk, hN]; rw [Int.tmod_eq_emod_of_nonneg (by omega), Int.natCast_emod]
  rw [← hk] at hsc' hk1
  rw [← hN] at hk1 hr ⊢
  obtain ⟨z, hz⟩ : ∃ z, z = szAt sz a := ⟨_, rfl⟩
  rw [← hz] at hsc'
  obtain ⟨p, hp⟩ : ∃ p, p = z.toNat := ⟨_, rfl⟩
  have hp1 : max 0 z = (p : Int) := by omega
  obtain ⟨n, hn⟩ : ∃ n, n = min p 1024 := ⟨_, rfl⟩
  have hmn : min (p : Int) 1024 = (n : Int) := by omega
  have hn1 : n ≤ 1024 := by omega
  have hn2 : n ≤ cap := by omega
  have hst : n = stepN sz a := by unfold stepN; rw [if_neg hsz, hn, hp, hz, Nat.min_comm]
  have HNA := Lib.hid (show nextA sz a = a + 1 from if_neg hsz)
  have c0 := cell_of_row w r 0 _ 82 _ hr
  have c1 := cell_of_row w r 1 _ 82 _ hr
  have c2 := cell_of_row w r 2 _ 82 _ hr
  have c3 := cell_of_row w r 3 _ 82 _ hr
  have f2 := frozen_of_row w r 2 _ 82 hr
  have hzl : S.size = l.length := by rw [Lib.size_eq, hS]
  have hl1 : 1 ≤ l.length := List.length_pos_iff.2 hl
  have i1 : ¬ (S.size : Int) = 0 := by omega
  have i2 : (S.size : Int) ≤ 1000000 := by omega
  have i3 : (0 : Int) < (N : Int) := by omega
  have i4 : (k : Int) < (N : Int) := by omega
  have HS := Lib.hid hS
  have HL := Lib.hid hl
  have HO := Lib.hid hO
  have HR := Lib.hid hr
  have HZ := Lib.hid hzl
  have HST := Lib.hid hst
  obtain ⟨m, hm⟩ : ∃ m, m = (l.take n).length := ⟨_, rfl⟩
  have hm1 : (m : Int) ≤ l.length := by rw [hm, List.length_take]; omega
  have hm2 : m ≤ S.size := by rw [HZ.out, hm, List.length_take]; omega
  have hrg : r ≠ g := by
    obtain ⟨c, x, h⟩ := own_tag HO.out (g := g) rfl
    exact ne_tag HR.out h (by decide)
  have HM := Lib.hid hm
  clear hr hS hl hO hst hn hp hz hsz hsv hsc hk2 hk hN hm
  go_enter Tryz.func200, Tryz.ntmps200
  go_wp2_with fail
  go_cut [6] from 6 to 83 (fun x6 wx => x6 = .int .i64 p ∧ Hid (Fr [] w wx))
  case first =>
    go_quiet (fail)
    go_wp2_with fail
    go_meet
    exact ⟨rfl, Lib.hid ((Fr.refl [] w).drewN _)⟩
  obtain ⟨rfl, HC0⟩ := hcut
  obtain ⟨w0, hw0⟩ : ∃ x, x = wc := ⟨_, rfl⟩
  subst hw0
  have hr0 := HC0.out.blk HR.out List.not_mem_nil
  have HR0 := Lib.hid hr0
  have c0 := cell_of_row w0 r 0 _ 82 _ hr0
  have c2 := cell_of_row w0 r 2 _ 82 _ hr0
  have f2 := frozen_of_row w0 r 2 _ 82 hr0
  have hO0 := HO.out.fr HC0.out (fun _ _ => List.not_mem_nil)
  have HO0 := Lib.hid hO0
  clear hr0 hO0
  go_upto_region 9 with fail
  obtain ⟨w2, hw2⟩ : ∃ x, x = w0.setCell ⟨r, 2, none⟩ (.int .i64 (a + 1)) := ⟨_, rfl⟩
  rw [← hw2]
  have hr2 := heap_setCell_same w0 r 2 _ 82 (.int .i64 (a + 1)) HR0.out
  rw [← hw2] at hr2
  have HR2 := Lib.hid hr2
  have c0 := cell_of_row w2 r 0 _ 82 _ hr2
  have HF2 : Hid (Fr [r, g] w w2) := Lib.hid (by rw [hw2]; exact (HC0.out.sub (by simp)).setCell (.inl (by simp)) _)
  have HO2 : Hid (Own w2 5 (.slice (some ⟨g, 0, none⟩) 0 cap) []) := Lib.hid (by rw [hw2]; exact HO0.out.fr ((Fr.refl [r] w0).setCell (.inl (by simp)) _) (fun k hk => by simp [Value.ownBlock] at hk; subst hk; simp; exact fun e => hrg e.symm))
  clear hw2 hr2 f2
  go_cut [6] from 6 to 83 (fun x6 wx => x6 = .int .i64 m ∧ Hid (Fr [g] w2 wx ∧ Own wx 5 (.slice (some ⟨g, 0, none⟩) m cap) (l.take n)))
  case first =>
    go_region_law (refine stepCopyS w2.drew (by rfl) _ _ (by rfl) g cap n cap S (by rfl) (by rfl) (show Own w2.drew 5 _ [] from HO2.out) hn2 ?_; intro w1 hf1 ho1; rw [HS.out, ← HM.out] at ho1 ⊢; have HC1 := Lib.hid (And.intro ((Fr.refl [g] w2).drew.trans hf1) ho1); clear hf1 ho1)
    all_goals
      go_wp2_with fail
      go_meet
      exact ⟨rfl, HC1⟩
  obtain ⟨rfl, HC1⟩ := hcut
  obtain ⟨w1, hw1⟩ : ∃ x, x = wc := ⟨_, rfl⟩
  subst hw1
  have hr1 := HC1.out.1.blk HR2.out (by simp; exact hrg)
  have HR1 := Lib.hid hr1
  have c0 := cell_of_row w1 r 0 _ 82 _ hr1
  have f0 := frozen_of_row w1 r 0 _ 82 hr1
  clear hr1
  go_wp2_with fail
  go_ret2
  exact rd_end (sz := sz) (a := a) hrg (by simpa [HNA.out] using HR1.out) ((HF2.out).trans (HC1.out.1.sub (by simp))) HC1.out.2 HM.out HS.out (by rw [HST.out]) rfl rfl
end Go.Proofs.YtpkkgngpjeoffaaGreatDoor
