/- PROVED HERE: a part of round r2's proofs (text TkE): lemmas and walks that later texts use. CONDITIONS: those written ahead of each theorem. -/
import Derived.Test.YtpkkgngpjeoffaaGreatDoorTkD
namespace Go.Proofs.YtpkkgngpjeoffaaGreatDoor
open Go.RowKit

def clen (c : List UInt8) : Nat := if c = [] then 0 else c.length + 2
theorem dec_no10 (n : Nat) : (10 : UInt8) ∉ Lib.decDigits n := fun h => by
  have := (dec_dv n).2 10 h
  unfold isDig at this
  simp at this
theorem drop_more {l x y : List UInt8} {a : Nat} (h : l.drop a = x ++ 13 :: 10 :: y) : l.drop (a + x.length + 2) = y := by
  rw [show a + x.length + 2 = a + (x.length + 2) from by omega, ← List.drop_drop, h, List.drop_append]
  simp
abbrev zero37 : Array Value := #[.int .i64 0, .string { data := #[] }, .int .i64 0, .float .f64 0, .bool false, .string { data := #[] }, .int .i64 0, .bool false]
set_option maxRecDepth 100000 in
set_option maxHeartbeats 1000000 in
theorem own_any (t : Nat) (S : ByteArray) (a : Nat) (c r1 rest : List UInt8) (w : World) (h : Tk w t S a) (hc : c.length ≤ 1048576) (hd : S.data.toList.drop a = Lib.decDigits c.length ++ 13 :: 10 :: r1) (hr : c ≠ [] → r1 = c ++ 13 :: 10 :: rest) (hz : S.size ≤ 1000000000) :
    Calls Tryz.prog 49 #[.pointer (some ⟨t, 0, none⟩), .int .u8 59] w fun e w' => ∃ m : ByteArray, e = .returned (.tuple #[msgV 0 m, .int .i64 0]) ∧ m.data.toList = c ∧ Fr [t] w w' ∧ Tk w' t S (a + (Lib.decDigits c.length).length + 2 + clen c) := by
  have hwt : w.heap.size ≠ t := by
    have := (Array.getElem?_eq_some_iff.1 h).1
    omega
  have hd2 := drop_more hd
  have HL := Lib.hid (line_any t S a (Lib.decDigits c.length) r1 (w.alloc (.cells zero37 37)) (h.fr ((Fr.refl [] w).alloc _) List.not_mem_nil) hd (dec_no10 _) hz)
  have HS := Lib.hid (fun (s : ByteArray) (W : World) (hs : s.data.toList = Lib.decDigits c.length) (hT : Tk W t S (a + (Lib.decDigits c.length).length + 2)) =>
    (show Calls Tryz.prog 80 #[.pointer (some ⟨t, 0, none⟩), .int .u8 59, .string s] W fun e w' => ∃ m : ByteArray, e = .returned (.tuple #[msgV 0 m, .int .i64 0]) ∧ m.data.toList = c ∧ Fr [t] W w' ∧ Tk w' t S (a + (Lib.decDigits c.length).length + 2 + clen c) from
      sized_any t S s (a + (Lib.decDigits c.length).length + 2) c rest W hT hs hc (fun hn => by rw [hd2, hr hn]) hz))
  obtain ⟨p, hp⟩ : ∃ p, p = a + (Lib.decDigits c.length).length + 2 := ⟨_, rfl⟩
  rw [← hp] at HL HS ⊢
  obtain ⟨p2, hp2⟩ : ∃ p2, p2 = p + clen c := ⟨_, rfl⟩
  rw [← hp2] at HS ⊢
  have hsf : ∀ (a : Addr) (k : FloatKind) (b : Nat) (m : Mode) (w : World), (store a (.float k b) m).run Tryz.prog w = stored Tryz.prog w a (.float k b) m := fun a k b m w => run_store Tryz.prog w a _ m rfl
  clear h hc hd hd2 hr hz hp hp2
  go_enter Tryz.func49, Tryz.ntmps49
  go_wp2_with (first
    | (go_at_call 75; refine HL.out.mono ?_; rintro e w1 ⟨s, rfl, hs1, hf1, hT1⟩; have HS1 := Lib.hid hs1; have HF1 := Lib.hid hf1; have HT1 := Lib.hid hT1; clear hs1 hf1 hT1)
    | (go_at_call 80; refine (HS.out s w1 HS1.out HT1.out).mono ?_; rintro e w4 ⟨m, rfl, hm, hf4, hT4⟩; have HM := Lib.hid hm; have HF4 := Lib.hid hf4; have HT4 := Lib.hid hT4; have hr4 := hf4.blk (HF1.out.blk (heap_alloc_new w (.cells zero37 37)) (by simp; exact hwt)) (by simp; exact hwt); have HR4 := Lib.hid hr4; have c0 := cell_of_row w4 w.heap.size 0 _ 37 _ hr4; have f0 := frozen_of_row w4 w.heap.size 0 _ 37 hr4; have c1 := cell_of_row w4 w.heap.size 1 _ 37 _ hr4; have f1 := frozen_of_row w4 w.heap.size 1 _ 37 hr4; have c2 := cell_of_row w4 w.heap.size 2 _ 37 _ hr4; have f2 := frozen_of_row w4 w.heap.size 2 _ 37 hr4; have c3 := cell_of_row w4 w.heap.size 3 _ 37 _ hr4; have f3 := frozen_of_row w4 w.heap.size 3 _ 37 hr4; have c4 := cell_of_row w4 w.heap.size 4 _ 37 _ hr4; have f4 := frozen_of_row w4 w.heap.size 4 _ 37 hr4; have c5 := cell_of_row w4 w.heap.size 5 _ 37 _ hr4; have f5 := frozen_of_row w4 w.heap.size 5 _ 37 hr4; have c6 := cell_of_row w4 w.heap.size 6 _ 37 _ hr4; have f6 := frozen_of_row w4 w.heap.size 6 _ 37 hr4; have c7 := cell_of_row w4 w.heap.size 7 _ 37 _ hr4; have f7 := frozen_of_row w4 w.heap.size 7 _ 37 hr4; clear hm hf4 hT4 hr4))
  all_goals
    refine bodyPost_ret (res37 rfl _ _ w.heap.size _ rfl (put8 w4 w.heap.size 37 _ _ _ _ _ _ _ _ _ _ _ _ _ _ _ _ HR4.out) rfl) rfl ?_
    refine ⟨m, rfl, HM.out, ?_, ?_⟩
    · exact Fr.put8 ((((Fr.refl [t] w).alloc _).trans (HF1.out.sub (by simp))).trans (HF4.out.sub (by simp))) (Nat.le_refl _) _ _ _ _ _ _ _ _
    · exact HT4.out.fr (Fr.put8s (Fr.refl [w.heap.size] w4) (by simp) _ _ _ _ _ _ _ _) (by simp; exact fun e => hwt e.symm)
end Go.Proofs.YtpkkgngpjeoffaaGreatDoor
