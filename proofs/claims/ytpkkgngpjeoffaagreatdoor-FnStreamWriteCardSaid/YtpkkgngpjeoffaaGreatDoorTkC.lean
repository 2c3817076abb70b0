/- PROVED HERE: a part of round r2's proofs (text TkC): lemmas and walks that later texts use. CONDITIONS: those written ahead of each theorem. -/
import Derived.Test.YtpkkgngpjeoffaaGreatDoorTkB
namespace Go.Proofs.YtpkkgngpjeoffaaGreatDoor
open Go.RowKit

set_option maxRecDepth 100000 in
theorem size_any (t : Nat) (s : ByteArray) (n : Nat) (w : World) (hs : s.data.toList = Lib.decDigits n) (hn : n ≤ 1048576) :
    Calls Tryz.prog 76 #[.pointer (some ⟨t, 0, none⟩), .string s] w fun e w' => e = .returned (.tuple #[.int .i64 n, .bool true]) ∧ w' = w := by
  have hd := dec_dv n
  have h := parsed_any s _ w hs (dec_ne n) hd.2 (dec_len18 (by omega))
  rw [hd.1] at h
  have HP := Lib.hid h
  have j1 : decide ((1048576 : Int) < (n : Int)) = false := decide_eq_false (by omega)
  have j2 : decide ((n : Int) < -1) = false := decide_eq_false (by omega)
  have j3 : ¬ 1048576 < n := by omega
  clear hd h hs
  go_enter Tryz.func76, Tryz.ntmps76
  go_wp2_with (go_at_call 77; refine HP.out.mono ?_; rintro e w1 ⟨rfl, rfl⟩)
  go_ret2
  exact ⟨rfl, rfl⟩
set_option maxRecDepth 100000 in
set_option maxHeartbeats 1000000 in
theorem body_any (t : Nat) (S : ByteArray) (a n : Nat) (b rest : List UInt8) (w : World) (h : Tk w t S a) (hd : S.data.toList.drop a = b ++ 13 :: 10 :: rest) (hn : n = b.length) (hs : S.size ≤ 1000000000) :
    Calls Tryz.prog 96 #[.pointer (some ⟨t, 0, none⟩), .int .i64 n] w fun e w' => ∃ s : ByteArray, e = .returned (.tuple #[.string s, .bool true]) ∧ s.data.toList = b ∧ Fr [t] w w' ∧ Tk w' t S (a + n + 2) := by
  have hlen : S.size = a + (n + 2 + rest.length) := by
    have h1 := congrArg List.length hd
    rw [List.length_drop, ← Lib.size_eq] at h1
    simp at h1
    omega
  have hget : ∀ k, S.data.toList[a + k]? = (b ++ 13 :: 10 :: rest)[k]? := fun k => by rw [← hd, List.getElem?_drop]
  obtain ⟨p, hp⟩ : ∃ p, p = a + n := ⟨_, rfl⟩
  have h13 : S.data.toList[p]? = some 13 := by rw [hp, hget, hn]; simp
  have h10 : S.data.toList[p + 1]? = some 10 := by rw [hp, show a + n + 1 = a + (n + 1) from by omega, hget, hn]; simp
  have hi13 : ∀ W, (Instr.index 9 (.string S) (.int .i64 ((a : Int) + (n : Int)))).run Tryz.prog W = .ok (.int .u8 ((13 : UInt8).toNat : Int)) W := fun W => by
    rw [show (a : Int) + (n : Int) = ((p : Nat) : Int) by omega]
    exact index_get S p 13 h13 W
  have hi10 : ∀ W, (Instr.index 9 (.string S) (.int .i64 ((a : Int) + (n : Int) + 1))).run Tryz.prog W = .ok (.int .u8 ((10 : UInt8).toNat : Int)) W := fun W => by
    rw [show (a : Int) + (n : Int) + 1 = ((p + 1 : Nat) : Int) by omega]
    exact index_get S (p + 1) 10 h10 W
  have HL1 := Lib.hid (left_any t S a (n + 2 + rest.length) w h hlen hs)
  have c0 := cell_of_row w t 0 _ 66 _ h
  have c1 := cell_of_row w t 1 _ 66 _ h
  have f1 := frozen_of_row w t 1 _ 66 h
  obtain ⟨q, hq⟩ : ∃ q, q = n + 2 + rest.length := ⟨_, rfl⟩
  rw [← hq] at HL1
  have e1 : decide ((q : Int) < (n : Int)) = false := decide_eq_false (by omega)
  have e1' : ¬ (q : Int) < (n : Int) := by omega
  have i1 : (a : Int) + (n : Int) ≤ (S.size : Int) := by omega
  have i3 : (a : Int) + (n : Int) ≤ 1000000000 := by omega
  have HH := Lib.hid h
  have HD := Lib.hid hd
  have HLEN := Lib.hid hlen
  have HQ := Lib.hid hq
  have HN := Lib.hid hn
  clear h hd hget h13 h10 hlen hp hq hn
  have HI13 := Lib.hid hi13
  have HI10 := Lib.hid hi10
  clear hi13 hi10
  go_enter Tryz.func96, Tryz.ntmps96
  go_upto_region 3 with (go_at_call 21; refine HL1.out.mono ?_; rintro e w1 ⟨rfl, q1, rfl⟩)
  go_quiet (fail)
  go_upto_region 5 with fail
  obtain ⟨w3, hw3⟩ : ∃ x, x = w.drewN (q1 + nq) := ⟨_, rfl⟩
  rw [← hw3]
  have hT3 : Tk w3 t S a := by rw [hw3]; exact HH.out.fr ((Fr.refl [] w).drewN _) List.not_mem_nil
  have HF3 : Hid (Fr [t] w w3) := Lib.hid (by rw [hw3]; exact (Fr.refl [t] w).drewN _)
  obtain ⟨w4, hw4⟩ : ∃ x, x = w3.setCell ⟨t, 1, none⟩ (.int .i64 ((a : Int) + (n : Int))) := ⟨_, rfl⟩
  rw [← hw4]
  have hT4 : Tk w4 t S (a + n) := by
    rw [hw4]
    have := hT3.put (a + n)
    simpa using this
  have HF4 : Hid (Fr [t] w w4) := Lib.hid (by rw [hw4]; exact HF3.out.setCell (.inl (by simp)) _)
  have HT4 := Lib.hid hT4
  obtain ⟨m, hm⟩ : ∃ m, m = 2 + rest.length := ⟨_, rfl⟩
  have HL4 := Lib.hid (fun k => left_any t S (a + n) m (w4.drewN k) (hT4.fr ((Fr.refl [] w4).drewN k) List.not_mem_nil) (by rw [HLEN.out]; omega) hs)
  have c0 : w4.cell? ⟨t, 0, none⟩ = some (.string S) := cell_of_row w4 t 0 _ 66 _ hT4
  have c1 : w4.cell? ⟨t, 1, none⟩ = some (.int .i64 ((a : Int) + (n : Int))) := cell_of_row w4 t 1 _ 66 _ hT4
  have e2 : (2 : Int) ≤ (m : Int) := by omega
  have e3 : decide ((2 : Int) ≤ (m : Int)) = true := decide_eq_true e2
  clear hw3 hw4 hT3 hT4 hm f1
  have f1 : w4.frozen? ⟨t, 1, none⟩ = false := frozen_of_row w4 t 1 _ 66 HT4.out
  have hi13 := HI13.out
  have hi10 := HI10.out
  go_quiet ((go_at_call 21; exact Calls.quiet_of (HL4.out _)))
  go_wp2_with fail
  go_ret2
  refine ⟨S.extract a (a + n), rfl, ?_, ((HF4.out.drewN _).setCell (.inl (by simp)) _), ?_⟩
  · rw [ByteArray.data_extract, Array.toList_extract, List.extract_eq_take_drop, HD.out, show a + n - a = b.length from by rw [HN.out]; omega]
    simp
  · have := (HT4.out.fr ((Fr.refl [] w4).drewN nq) List.not_mem_nil).put (a + n + 2)
    simpa using this
end Go.Proofs.YtpkkgngpjeoffaaGreatDoor
