/- PROVED HERE: a part of round r2's proofs (text TkF): lemmas and walks that later texts use. CONDITIONS: those written ahead of each theorem. -/
import Derived.Test.YtpkkgngpjeoffaaGreatDoorTkE
namespace Go.Proofs.YtpkkgngpjeoffaaGreatDoor
open Go.RowKit

theorem row_cells8 {w : World} {g : Nat} {a0 a1 a2 a3 a4 a5 a6 a7 : Value} (h : w.heap[g]? = some (.cells #[a0, a1, a2, a3, a4, a5, a6, a7] 37 (0, 0))) :
    (w.cell? ⟨g, 0, none⟩ = some a0 ∧ w.cell? ⟨g, 1, none⟩ = some a1 ∧ w.cell? ⟨g, 2, none⟩ = some a2 ∧ w.cell? ⟨g, 3, none⟩ = some a3 ∧ w.cell? ⟨g, 4, none⟩ = some a4 ∧ w.cell? ⟨g, 5, none⟩ = some a5 ∧ w.cell? ⟨g, 6, none⟩ = some a6 ∧ w.cell? ⟨g, 7, none⟩ = some a7) ∧
    (w.frozen? ⟨g, 0, none⟩ = false ∧ w.frozen? ⟨g, 1, none⟩ = false ∧ w.frozen? ⟨g, 2, none⟩ = false ∧ w.frozen? ⟨g, 3, none⟩ = false ∧ w.frozen? ⟨g, 4, none⟩ = false ∧ w.frozen? ⟨g, 5, none⟩ = false ∧ w.frozen? ⟨g, 6, none⟩ = false ∧ w.frozen? ⟨g, 7, none⟩ = false) :=
  ⟨⟨cell_of_row w g 0 _ 37 _ h, cell_of_row w g 1 _ 37 _ h, cell_of_row w g 2 _ 37 _ h, cell_of_row w g 3 _ 37 _ h, cell_of_row w g 4 _ 37 _ h, cell_of_row w g 5 _ 37 _ h, cell_of_row w g 6 _ 37 _ h, cell_of_row w g 7 _ 37 _ h⟩,
   ⟨frozen_of_row w g 0 _ 37 h, frozen_of_row w g 1 _ 37 h, frozen_of_row w g 2 _ 37 h, frozen_of_row w g 3 _ 37 h, frozen_of_row w g 4 _ 37 h, frozen_of_row w g 5 _ 37 h, frozen_of_row w g 6 _ 37 h, frozen_of_row w g 7 _ 37 h⟩⟩
theorem chunkE_own (c rest : List UInt8) : ∃ r1, chunkE c ++ rest = 59 :: (Lib.decDigits c.length ++ 13 :: 10 :: r1) ∧ (c ≠ [] → r1 = c ++ 13 :: 10 :: rest) ∧ 1 + (Lib.decDigits c.length).length + 2 + clen c = (chunkE c).length := by
  by_cases hc : c = []
  · subst hc
    exact ⟨rest, by simp [chunkE], fun h => absurd rfl h, by simp [chunkE, clen]; omega⟩
  · refine ⟨c ++ 13 :: 10 :: rest, by simp [chunkE, hc], fun _ => rfl, ?_⟩
    simp [chunkE, clen, hc]
    omega
set_option maxRecDepth 100000 in
set_option maxHeartbeats 1000000 in
theorem message_any (t : Nat) (S : ByteArray) (a : Nat) (c rest : List UInt8) (w : World) (h : Tk w t S a) (hc : c.length ≤ 1048576) (hd : S.data.toList.drop a = chunkE c ++ rest) (hz : S.size ≤ 1000000000) :
    Calls Tryz.prog 20 #[.pointer (some ⟨t, 0, none⟩), .int .u8 59, .bool true] w fun e w' => ∃ m : ByteArray, e = .returned (.tuple #[msgV 59 m, .int .i64 0]) ∧ m.data.toList = c ∧ Fr [t] w w' ∧ Tk w' t S (a + (chunkE c).length) := by
  obtain ⟨r1, e1, e2, e3⟩ := chunkE_own c rest
  rw [e1] at hd
  have hx : S.data.toList[a]? = some 59 := by
    have := congrArg (fun l => l[0]?) hd
    simpa using this
  have hd2 : S.data.toList.drop (a + 1) = Lib.decDigits c.length ++ 13 :: 10 :: r1 := by rw [← List.drop_drop, hd]; rfl
  have ha : a < S.size := by
    have := (List.getElem?_eq_some_iff.1 hx).1
    rw [Lib.size_eq]; exact this
  obtain ⟨n, hn⟩ : ∃ n, S.size = a + (n + 1) := ⟨S.size - a - 1, by omega⟩
  have HPK := Lib.hid (fun W (hW : Tk W t S a) => (show Calls Tryz.prog 46 #[.pointer (some ⟨t, 0, none⟩)] W fun e w' => e = .returned (.int .u8 59) ∧ ∃ q, w' = W.drewN q from peek_any t S a 59 W hW hx hz))
  have HLF := Lib.hid (fun W (hW : Tk W t S a) => left_any t S a (n + 1) W hW hn hz)
  have HOW := Lib.hid (fun W (hW : Tk W t S (a + 1)) => (show Calls Tryz.prog 49 #[.pointer (some ⟨t, 0, none⟩), .int .u8 59] W fun e w' => ∃ m : ByteArray, e = .returned (.tuple #[msgV 0 m, .int .i64 0]) ∧ m.data.toList = c ∧ Fr [t] W w' ∧ Tk w' t S (a + (chunkE c).length) from by
    have := own_any t S (a + 1) c r1 rest W hW hc hd2 e2 hz
    rw [show a + 1 + (Lib.decDigits c.length).length + 2 + clen c = a + (chunkE c).length from by omega] at this
    exact this))
  have hwt : t < w.heap.size := (Array.getElem?_eq_some_iff.1 h).1
  have HWT := Lib.hid hwt
  have HH := Lib.hid h
  have i3 : (a : Int) < 1000000000 := by omega
  obtain ⟨m, hm⟩ : ∃ m, m = n + 1 := ⟨_, rfl⟩
  rw [← hm] at HLF
  have i4 : ((m : Int) == 0) = false := by simp; omega
  have i5 : ¬ (m : Int) = 0 := by omega
  have hsf : ∀ (a : Addr) (k : FloatKind) (b : Nat) (m : Mode) (w : World), (store a (.float k b) m).run Tryz.prog w = stored Tryz.prog w a (.float k b) m := fun a k b m w => run_store Tryz.prog w a _ m rfl
  obtain ⟨p2, hp2⟩ : ∃ p2, p2 = a + (chunkE c).length := ⟨_, rfl⟩
  rw [← hp2] at HOW ⊢
  clear h hc hd hz e1 e2 e3 hx hd2 ha hn hm hwt hp2
  go_enter Tryz.func20, Tryz.ntmps20
  go_upto_region 2 with fail
  obtain ⟨w1, hw1⟩ : ∃ x, x = (w.alloc (.cells zero37 37)).alloc (.cells #[.int .i64 59, .string { data := #[] }, .int .i64 0, .float .f64 0, .bool false, .string { data := #[] }, .int .i64 0, .bool false] 37) := ⟨_, rfl⟩
  rw [← hw1]
  have hf1 : Fr [] w w1 := by rw [hw1]; exact ((Fr.refl [] w).alloc _).alloc _
  have hr1 : w1.heap[w.heap.size]? = some (.cells zero37 37 (0, 0)) := by
    rw [hw1]
    exact ((Fr.refl [] (w.alloc (.cells zero37 37))).alloc _).blk (heap_alloc_new w (.cells zero37 37)) List.not_mem_nil
  have HR1 := Lib.hid hr1
  have HF1 := Lib.hid hf1
  have hT1 : Tk w1 t S a := HH.out.fr hf1 List.not_mem_nil
  have HT1 := Lib.hid hT1
  have c1 := cell_of_row w1 t 1 _ 66 _ hT1
  have f1 := frozen_of_row w1 t 1 _ 66 hT1
  obtain ⟨H, hH⟩ : ∃ H, H = w.heap.size := ⟨_, rfl⟩
  rw [← hH] at HR1 ⊢
  have HH' := Lib.hid hH
  clear hw1 hf1 hr1 hT1 hH
  go_upto_region 13 with (first
    | (go_at_call 46; refine (HPK.out _ (HT1.out.fr ((Fr.refl [] w1).drewN _) List.not_mem_nil)).mono ?_; rintro e w2 ⟨rfl, q4, rfl⟩)
    | (go_at_call 46; refine (HPK.out _ HT1.out).mono ?_; rintro e w2 ⟨rfl, q2, rfl⟩)
    | (go_at_call 21; refine (HLF.out _ (HT1.out.fr ((Fr.refl [] w1).drewN _) List.not_mem_nil)).mono ?_; rintro e w2 ⟨rfl, q3, rfl⟩))
  obtain ⟨w5, hw5⟩ : ∃ x, x = (w1.drewN (q2 + q3 + q4)).setCell ⟨t, 1, none⟩ (.int .i64 ((a : Int) + 1)) := ⟨_, rfl⟩
  rw [← hw5]
  have hT5 : Tk w5 t S (a + 1) := by rw [hw5]; exact (HT1.out.fr ((Fr.refl [] w1).drewN _) List.not_mem_nil).put (a + 1)
  have hF5 : Fr [t] w w5 := by rw [hw5]; exact ((HF1.out.drewN _).sub (by simp)).setCell (.inl (by simp)) _
  have htH : t < H := by rw [HH'.out]; exact HWT.out
  have hr5 : w5.heap[H]? = some (.cells zero37 37 (0, 0)) := by
    rw [hw5]
    have hfx : Fr [t] w1 ((w1.drewN (q2 + q3 + q4)).setCell ⟨t, 1, none⟩ (.int .i64 ((a : Int) + 1))) := ((Fr.refl [t] w1).drewN _).setCell (.inl (by simp)) _
    exact hfx.blk HR1.out (by simp; omega)
  have HT5 := Lib.hid hT5
  have HF5 := Lib.hid hF5
  have HR5 := Lib.hid hr5
  have HtH := Lib.hid htH
  clear hw5 hT5 hF5 htH hr5 c1 f1
  go_upto_region 14 with (go_at_call 49; refine (HOW.out _ HT5.out).mono ?_; rintro e w6 ⟨ms, rfl, hm6, hf6, hT6⟩; have HM6 := Lib.hid hm6; have HF6 := Lib.hid hf6; have HT6 := Lib.hid hT6; have HR6 := Lib.hid (hf6.blk HR5.out (by simp; have := HtH.out; omega)); obtain ⟨⟨c0, c1, c2, c3, c4, c5, c6, c7⟩, f0, f1, f2, f3, f4, f5, f6, f7⟩ := row_cells8 HR6.out; clear hm6 hf6 hT6)
  obtain ⟨w7, hw7⟩ : ∃ x, x = ((((((((w6.setCell ⟨H, 0, none⟩ (.int .i64 0)).setCell ⟨H, 1, none⟩ (.string ms)).setCell ⟨H, 2, none⟩ (.int .i64 0)).setCell ⟨H, 3, none⟩ (.float .f64 0)).setCell ⟨H, 4, none⟩ (.bool false)).setCell ⟨H, 5, none⟩ (.string { data := #[] })).setCell ⟨H, 6, none⟩ (.int .i64 0)).setCell ⟨H, 7, none⟩ (.bool false)) := ⟨_, rfl⟩
  rw [← hw7]
  have hR7 : w7.heap[H]? = some (.cells #[.int .i64 0, .string ms, .int .i64 0, .float .f64 0, .bool false, .string { data := #[] }, .int .i64 0, .bool false] 37 (0, 0)) := by rw [hw7]; exact put8 w6 H 37 _ _ _ _ _ _ _ _ _ _ _ _ _ _ _ _ HR6.out
  have hF7 : Fr [t] w w7 := by rw [hw7]; exact Fr.put8 (HF5.out.trans HF6.out) (by rw [HH'.out]; exact Nat.le_refl _) _ _ _ _ _ _ _ _
  have hT7 : Tk w7 t S p2 := by rw [hw7]; exact HT6.out.fr (Fr.put8s (Fr.refl [H] w6) (by simp) _ _ _ _ _ _ _ _) (by simp; have := HtH.out; omega)
  have HR7 := Lib.hid hR7
  have HF7 := Lib.hid hF7
  have HT7 := Lib.hid hT7
  clear hw7 hR7 hF7 hT7 c0 c1 c2 c3 c4 c5 c6 c7 f0 f1 f2 f3 f4 f5 f6 f7
  obtain ⟨⟨c0, c1, c2, c3, c4, c5, c6, c7⟩, f0, f1, f2, f3, f4, f5, f6, f7⟩ := row_cells8 HR7.out
  go_upto_region 17 with fail
  obtain ⟨w8, hw8⟩ : ∃ x, x = w7.setCell ⟨H, 0, none⟩ (.int .i64 59) := ⟨_, rfl⟩
  rw [← hw8]
  have hR8 : w8.heap[H]? = some (.cells #[.int .i64 59, .string ms, .int .i64 0, .float .f64 0, .bool false, .string { data := #[] }, .int .i64 0, .bool false] 37 (0, 0)) := by
    rw [hw8]
    have := heap_setCell_same w7 H 0 _ 37 (.int .i64 59) HR7.out
    simpa using this
  have hF8 : Fr [t] w w8 := by rw [hw8]; exact HF7.out.setCell (.inr (by rw [HH'.out]; exact Nat.le_refl _)) _
  have hT8 : Tk w8 t S p2 := by rw [hw8]; exact HT7.out.fr ((Fr.refl [H] w7).setCell (.inl (by simp)) _) (by simp; have := HtH.out; omega)
  have HR8 := Lib.hid hR8
  have HF8 := Lib.hid hF8
  have HT8 := Lib.hid hT8
  clear hw8 hR8 hF8 hT8 c0 c1 c2 c3 c4 c5 c6 c7 f0 f1 f2 f3 f4 f5 f6 f7
  obtain ⟨⟨c0, c1, c2, c3, c4, c5, c6, c7⟩, f0, f1, f2, f3, f4, f5, f6, f7⟩ := row_cells8 HR8.out
  go_wp2_with fail
  refine bodyPost_ret (res37 rfl _ _ H _ rfl (put8 w8 H 37 _ _ _ _ _ _ _ _ _ _ _ _ _ _ _ _ HR8.out) rfl) rfl ?_
  refine ⟨ms, rfl, HM6.out, ?_, ?_⟩
  · exact Fr.put8 HF8.out (by rw [HH'.out]; exact Nat.le_refl _) _ _ _ _ _ _ _ _
  · exact HT8.out.fr (Fr.put8s (Fr.refl [H] w8) (by simp) _ _ _ _ _ _ _ _) (by simp; have := HtH.out; omega)
end Go.Proofs.YtpkkgngpjeoffaaGreatDoor
