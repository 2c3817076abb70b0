/- PROVED HERE: a part of round r2's proofs (text TkD): lemmas and walks that later texts use. CONDITIONS: those written ahead of each theorem. -/
import Derived.Test.YtpkkgngpjeoffaaGreatDoorTkC
import Derived.Laws.ResultCell
namespace Go.Proofs.YtpkkgngpjeoffaaGreatDoor
open Go.RowKit

theorem many59 (w : World) : Calls Tryz.prog 81 #[.int .u8 59] w fun e w' => e = .returned (.tuple #[.int .i64 0, .bool false]) ∧ w' = w := by
  go_enter Tryz.func81, Tryz.ntmps81
  go_wp2_with fail
  go_ret2
  exact ⟨rfl, rfl⟩
theorem put8 (w : World) (g : Nat) (t : TypeId) (a0 a1 a2 a3 a4 a5 a6 a7 v0 v1 v2 v3 v4 v5 v6 v7 : Value) (h : w.heap[g]? = some (.cells #[a0, a1, a2, a3, a4, a5, a6, a7] t (0, 0))) :
    ((((((((w.setCell ⟨g, 0, none⟩ v0).setCell ⟨g, 1, none⟩ v1).setCell ⟨g, 2, none⟩ v2).setCell ⟨g, 3, none⟩ v3).setCell ⟨g, 4, none⟩ v4).setCell ⟨g, 5, none⟩ v5).setCell ⟨g, 6, none⟩ v6).setCell ⟨g, 7, none⟩ v7).heap[g]? = some (.cells #[v0, v1, v2, v3, v4, v5, v6, v7] t (0, 0)) := by
  have := heap_setCell_same _ g 7 _ t v7 (heap_setCell_same _ g 6 _ t v6 (heap_setCell_same _ g 5 _ t v5 (heap_setCell_same _ g 4 _ t v4 (heap_setCell_same _ g 3 _ t v3 (heap_setCell_same _ g 2 _ t v2 (heap_setCell_same _ g 1 _ t v1 (heap_setCell_same _ g 0 _ t v0 h)))))))
  simpa using this
theorem Fr.put8 {T : List Nat} {w0 w : World} (f : Fr T w0 w) {g : Nat} (hg : w0.heap.size ≤ g) (v0 v1 v2 v3 v4 v5 v6 v7 : Value) : Fr T w0 ((((((((w.setCell ⟨g, 0, none⟩ v0).setCell ⟨g, 1, none⟩ v1).setCell ⟨g, 2, none⟩ v2).setCell ⟨g, 3, none⟩ v3).setCell ⟨g, 4, none⟩ v4).setCell ⟨g, 5, none⟩ v5).setCell ⟨g, 6, none⟩ v6).setCell ⟨g, 7, none⟩ v7) := ((((((((f.setCell (.inr hg) _).setCell (.inr hg) _).setCell (.inr hg) _).setCell (.inr hg) _).setCell (.inr hg) _).setCell (.inr hg) _).setCell (.inr hg) _).setCell (.inr hg) _)
theorem Fr.put8s {T : List Nat} {w0 w : World} (f : Fr T w0 w) {g : Nat} (hg : g ∈ T) (v0 v1 v2 v3 v4 v5 v6 v7 : Value) : Fr T w0 ((((((((w.setCell ⟨g, 0, none⟩ v0).setCell ⟨g, 1, none⟩ v1).setCell ⟨g, 2, none⟩ v2).setCell ⟨g, 3, none⟩ v3).setCell ⟨g, 4, none⟩ v4).setCell ⟨g, 5, none⟩ v5).setCell ⟨g, 6, none⟩ v6).setCell ⟨g, 7, none⟩ v7) := ((((((((f.setCell (.inl hg) _).setCell (.inl hg) _).setCell (.inl hg) _).setCell (.inl hg) _).setCell (.inl hg) _).setCell (.inl hg) _).setCell (.inl hg) _).setCell (.inl hg) _)
theorem res37 {fn : Func} {p u : Tmp} (h : fn.results = #[.cell p 37, .tmp u]) (tmps : Array Value) (w : World) (g : Nat) (cs : Array Value) (hp : tmps.getD p undef = .pointer (some ⟨g, 0, none⟩)) (hr : w.heap[g]? = some (.cells cs 37 (0, 0))) (h8 : cs.size = 8) :
    (results fn tmps).run Tryz.prog w = .ok (.tuple #[.agg cs, tmps.getD u undef]) w := by
  rw [results_cell_tmp h, hp]
  have hi : (Tryz.prog.info? 37).map (·.size) = some cs.size := by rw [h8]; kernel_rfl
  have hl := run_loadVar_row (P := Tryz.prog) w g 37 37 cs (0, 0) _ hr Tryz.underlying37 rfl hi
  simp [asAddr, Result.andThen, hl]
abbrev msgV (k : Int) (s : ByteArray) : Value := .agg #[.int .i64 k, .string s, .int .i64 0, .float .f64 0, .bool false, .string { data := #[] }, .int .i64 0, .bool false]
set_option maxRecDepth 100000 in
set_option maxHeartbeats 1000000 in
theorem sized_any (t : Nat) (S s : ByteArray) (a : Nat) (c rest : List UInt8) (w : World) (h : Tk w t S a) (hs : s.data.toList = Lib.decDigits c.length) (hc : c.length ≤ 1048576) (hd : c ≠ [] → S.data.toList.drop a = c ++ 13 :: 10 :: rest) (hz : S.size ≤ 1000000000) :
    Calls Tryz.prog 80 #[.pointer (some ⟨t, 0, none⟩), .int .u8 59, .string s] w fun e w' => ∃ m : ByteArray, e = .returned (.tuple #[msgV 0 m, .int .i64 0]) ∧ m.data.toList = c ∧ Fr [t] w w' ∧ Tk w' t S (a + if c = [] then 0 else c.length + 2) := by
  obtain ⟨n, hn⟩ : ∃ n, n = c.length := ⟨_, rfl⟩
  have HSZ := Lib.hid (fun w => size_any t s n w (by rw [hn]; exact hs) (by omega))
  have hq : (s.toList == [63]) = false := by
    rw [ByteArray.toList_eq, hs]
    have h1 := (dec_dv c.length).2
    cases hh : Lib.decDigits c.length with
    | nil => rfl
    | cons x y =>
      have := h1 x (by rw [hh]; simp)
      unfold isDig at this
      have hx : x ≠ 63 := by rintro rfl; simp at this
      simp [hx]
  have hsf : ∀ (a : Addr) (k : FloatKind) (b : Nat) (m : Mode) (w : World), (store a (.float k b) m).run Tryz.prog w = stored Tryz.prog w a (.float k b) m := fun a k b m w => run_store Tryz.prog w a _ m rfl
  have HN := Lib.hid hn
  have HH := Lib.hid h
  have HD := Lib.hid hd
  have hn1 : n ≤ 1048576 := by omega
  by_cases hn0 : n = 0
  · have hcn : c = [] := List.eq_nil_of_length_eq_zero (by omega)
    have HCN := Lib.hid hcn
    subst hn0
    clear h hs hd hn hc hcn
    go_enter Tryz.func80, Tryz.ntmps80
    go_wp2_with (first
      | (go_at_call 76; refine (HSZ.out _).mono ?_; rintro e w2 ⟨rfl, rfl⟩)
      | (go_at_call 81; refine (many59 _).mono ?_; rintro e w2 ⟨rfl, rfl⟩))
    refine bodyPost_ret (v := .tuple #[msgV 0 { data := #[] }, .int .i64 0]) (by simp [results, Tryz.results80, go_sem, msgV]) rfl ?_
    refine ⟨{ data := #[] }, rfl, ?_, ?_, ?_⟩
    · rfl
    · exact (Fr.refl [t] w).alloc _
    · exact HH.out.fr ((Fr.refl [] w).alloc _) List.not_mem_nil
  · have hcn : c ≠ [] := fun e => hn0 (by rw [hn, e]; rfl)
    have HCN := Lib.hid hcn
    have i1 : (0 : Int) < (n : Int) := by omega
    have hwt : w.heap.size ≠ t := by
      have := (Array.getElem?_eq_some_iff.1 h).1
      omega
    have HB := Lib.hid (body_any t S a n c rest (w.alloc (.cells #[.int .i64 0, .string { data := #[] }, .int .i64 0, .float .f64 0, .bool false, .string { data := #[] }, .int .i64 0, .bool false] 37)) (h.fr ((Fr.refl [] w).alloc _) List.not_mem_nil) (hd hcn) hn hz)
    clear h hs hd hn hc hcn
    go_enter Tryz.func80, Tryz.ntmps80
    go_wp2_with (first
      | (go_at_call 76; refine (HSZ.out _).mono ?_; rintro e w2 ⟨rfl, rfl⟩)
      | (go_at_call 81; refine (many59 _).mono ?_; rintro e w2 ⟨rfl, rfl⟩)
      | (go_at_call 96; refine HB.out.mono ?_; rintro e w4 ⟨m, rfl, hm, hf4, hT4⟩; have HM := Lib.hid hm; have HF4 := Lib.hid hf4; have HT4 := Lib.hid hT4; have hr4 := hf4.blk (heap_alloc_new w _) (by simp; exact hwt); have HR4 := Lib.hid hr4; have c0 := cell_of_row w4 w.heap.size 0 _ 37 _ hr4; have f0 := frozen_of_row w4 w.heap.size 0 _ 37 hr4; have c1 := cell_of_row w4 w.heap.size 1 _ 37 _ hr4; have f1 := frozen_of_row w4 w.heap.size 1 _ 37 hr4; have c2 := cell_of_row w4 w.heap.size 2 _ 37 _ hr4; have f2 := frozen_of_row w4 w.heap.size 2 _ 37 hr4; have c3 := cell_of_row w4 w.heap.size 3 _ 37 _ hr4; have f3 := frozen_of_row w4 w.heap.size 3 _ 37 hr4; have c4 := cell_of_row w4 w.heap.size 4 _ 37 _ hr4; have f4 := frozen_of_row w4 w.heap.size 4 _ 37 hr4; have c5 := cell_of_row w4 w.heap.size 5 _ 37 _ hr4; have f5 := frozen_of_row w4 w.heap.size 5 _ 37 hr4; have c6 := cell_of_row w4 w.heap.size 6 _ 37 _ hr4; have f6 := frozen_of_row w4 w.heap.size 6 _ 37 hr4; have c7 := cell_of_row w4 w.heap.size 7 _ 37 _ hr4; have f7 := frozen_of_row w4 w.heap.size 7 _ 37 hr4; clear hm hf4 hT4 hr4))
    all_goals
      refine bodyPost_ret (res37 rfl _ _ w.heap.size _ rfl (put8 w4 w.heap.size 37 _ _ _ _ _ _ _ _ _ _ _ _ _ _ _ _ HR4.out) rfl) rfl ?_
      refine ⟨m, rfl, HM.out, ?_, ?_⟩
      · exact Fr.put8 (((Fr.refl [t] w).alloc _).trans (HF4.out.sub (by simp))) (Nat.le_refl _) _ _ _ _ _ _ _ _
      · rw [← HN.out, show a + (n + 2) = a + n + 2 from by omega]
        exact HT4.out.fr (Fr.put8s (Fr.refl [w.heap.size] w4) (by simp) _ _ _ _ _ _ _ _) (by simp; exact fun e => hwt e.symm)
end Go.Proofs.YtpkkgngpjeoffaaGreatDoor
