import Derived.Test.YtaaogjhaokaggaaGreatDoorLawA
import Derived.RegionTactic
import Derived.BigRegion
import Derived.Laws.Concat
namespace Go.Proofs.YtaaogjhaokaggaaGreatDoor
open Go.RowKit

/-- The cells of spec's encoder at the head of block b. -/
def SR (w : World) (b : Nat) (cs : Array Value) : Prop := w.heap[b]? = some (.cells cs 94 (0, 0))
theorem SR.set {w : World} {b : Nat} {cs : Array Value} (h : SR w b cs) (i : Nat) (v : Value) : SR (w.setCell ⟨b, i, none⟩ v) b (cs.setIfInBounds i v) := heap_setCell_same w b i cs 94 v h
theorem SR.cell {w : World} {b : Nat} {cs : Array Value} (h : SR w b cs) (i : Nat) : w.cell? ⟨b, i, none⟩ = cs[i]? := cell_of_row w b i cs 94 _ h
theorem SR.free {w : World} {b : Nat} {cs : Array Value} (h : SR w b cs) (i : Nat) : w.frozen? ⟨b, i, none⟩ = false := frozen_of_row w b i cs 94 h
theorem SR.fr {S : List Nat} {w w' : World} {b : Nat} {cs : Array Value} (h : SR w b cs) (f : Fr S w w') (hb : b ∉ S) : SR w' b cs := f.blk h hb
theorem SR.drew {w : World} {b : Nat} {cs : Array Value} (h : SR w b cs) : SR w.drew b cs := h
/-- What the walk is handed of the cells. -/
theorem SR.all {w : World} {b : Nat} {c0 c1 c2 c3 c4 c5 c6 c7 c8 c9 c10 : Value} (h : SR w b #[c0, c1, c2, c3, c4, c5, c6, c7, c8, c9, c10]) :
    (w.cell? ⟨b, 0, none⟩ = some c0 ∧ w.cell? ⟨b, 1, none⟩ = some c1 ∧ w.cell? ⟨b, 2, none⟩ = some c2 ∧ w.cell? ⟨b, 3, none⟩ = some c3 ∧ w.cell? ⟨b, 4, none⟩ = some c4 ∧ w.cell? ⟨b, 5, none⟩ = some c5 ∧ w.cell? ⟨b, 6, none⟩ = some c6 ∧ w.cell? ⟨b, 7, none⟩ = some c7 ∧ w.cell? ⟨b, 8, none⟩ = some c8 ∧ w.cell? ⟨b, 9, none⟩ = some c9 ∧ w.cell? ⟨b, 10, none⟩ = some c10) ∧
    (w.frozen? ⟨b, 0, none⟩ = false ∧ w.frozen? ⟨b, 1, none⟩ = false ∧ w.frozen? ⟨b, 2, none⟩ = false ∧ w.frozen? ⟨b, 3, none⟩ = false ∧ w.frozen? ⟨b, 4, none⟩ = false ∧ w.frozen? ⟨b, 5, none⟩ = false ∧ w.frozen? ⟨b, 6, none⟩ = false ∧ w.frozen? ⟨b, 7, none⟩ = false ∧ w.frozen? ⟨b, 8, none⟩ = false ∧ w.frozen? ⟨b, 9, none⟩ = false ∧ w.frozen? ⟨b, 10, none⟩ = false) := by
  refine ⟨⟨?_, ?_, ?_, ?_, ?_, ?_, ?_, ?_, ?_, ?_, ?_⟩, h.free _, h.free _, h.free _, h.free _, h.free _, h.free _, h.free _, h.free _, h.free _, h.free _, h.free _⟩
  all_goals (rw [h.cell]; rfl)

set_option maxHeartbeats 2000000 in
set_option maxRecDepth 100000 in
theorem fails_stale (b : Nat) (c0 c1 c2 c3 c4 c5 c6 c7 c8 c9 : Value) (o : Bool) (w : World) (h : SR w b #[c0, c1, c2, c3, c4, c5, c6, c7, c8, c9, .bool true]) :
    Calls Tryz.prog 92 #[.pointer (some ⟨b, 0, none⟩), .bool o] w fun e w' => e = .returned (.bool true) ∧ w' = w := by
  obtain ⟨⟨-, -, -, -, -, -, -, -, -, -, d10⟩, f0, f1, f2, f3, f4, f5, f6, f7, f8, f9, f10⟩ := h.all
  clear h
  go_enter Tryz.func92, Tryz.ntmps92
  go_wp2
  go_ret
  exact ⟨rfl, rfl⟩
/-- The error is noted. -/
def failRow (B : List UInt8) (s0 : Nat) (sec : Int) (vk : Value) (err out o : Bool) (vl vp vb : Value) : Array Value :=
  #[.string ⟨(B.take s0).toArray⟩, .int .i64 s0, .int .i64 (if B.take s0 = [] then 0 else sec), .bool true, vk, .bool true, .bool (if err = true then out else o), vl, vp, vb, .bool false]
set_option maxHeartbeats 4000000 in
set_option maxRecDepth 100000 in
theorem fails_any (b : Nat) (B : List UInt8) (s0 : Nat) (hs : s0 ≤ B.length) (sec : Int) (bad : Bool) (vk : Value) (err out o : Bool) (vl vp vb : Value) (w : World)
    (h : SR w b #[.string ⟨B.toArray⟩, .int .i64 s0, .int .i64 sec, .bool bad, vk, .bool err, .bool out, vl, vp, vb, .bool false]) :
    Calls Tryz.prog 92 #[.pointer (some ⟨b, 0, none⟩), .bool o] w fun e w' => e = .returned (.bool false) ∧ SR w' b (failRow B s0 sec vk err out o vl vp vb) ∧ Fr [b] w w' := by
  obtain ⟨⟨d0, d1, d2, d3, d4, d5, d6, d7, d8, d9, d10⟩, f0, f1, f2, f3, f4, f5, f6, f7, f8, f9, f10⟩ := h.all
  have H := Lib.hid h; clear h
  have hi0 : (0 : Int) ≤ (s0 : Int) := by omega
  have hsl : ∀ w, (Instr.slice 9 (.string ⟨B.toArray⟩) none (some (.int .i64 (s0 : Int))) none).run Tryz.prog w = .ok (.string ⟨(B.take s0).toArray⟩) w := fun w => by
    rw [run_slice_string_to_if w 9 _ _ _ Tryz.underlying9, if_pos ⟨hi0, by show (s0 : Int) ≤ (B.toArray.size : Int); rw [List.size_toArray]; omega⟩]
    congr 2
    apply ByteArray.ext
    simp
  unfold failRow
  generalize B.take s0 = C at hsl ⊢
  have hfin : (if C = [] then (0 : Int) else sec) = if C.isEmpty = true then 0 else sec := by cases C <;> simp
  rw [hfin]
  have hrow0 : SR ((w.setCell ⟨b, 3, none⟩ (.bool true)).setCell ⟨b, 0, none⟩ (.string ⟨C.toArray⟩)) b #[.string ⟨C.toArray⟩, .int .i64 s0, .int .i64 sec, .bool true, vk, .bool err, .bool out, vl, vp, vb, .bool false] := (H.out.set 3 (.bool true)).set 0 (.string ⟨C.toArray⟩)
  have hrow1 : SR ((((w.setCell ⟨b, 3, none⟩ (.bool true)).setCell ⟨b, 5, none⟩ (.bool true)).setCell ⟨b, 6, none⟩ (.bool o)).setCell ⟨b, 0, none⟩ (.string ⟨C.toArray⟩)) b #[.string ⟨C.toArray⟩, .int .i64 s0, .int .i64 sec, .bool true, vk, .bool true, .bool o, vl, vp, vb, .bool false] := (((H.out.set 3 (.bool true)).set 5 (.bool true)).set 6 (.bool o)).set 0 (.string ⟨C.toArray⟩)
  have H0 := Lib.hid hrow0
  have H1 := Lib.hid hrow1
  clear hfin hs hrow0 hrow1
  cases hz : C.isEmpty with
  | true =>
    cases err
    · go_enter Tryz.func92, Tryz.ntmps92
      go_wp2
      go_region
      all_goals
        go_wp2
        go_ret
        refine ⟨rfl, (H1.out.set 2 (.int .i64 0)).drew, Fr.drew ?_⟩
        repeat (refine Fr.setCell ?_ (.inl (by simp)) _)
        exact Fr.refl _ _
    · go_enter Tryz.func92, Tryz.ntmps92
      go_wp2
      go_region
      all_goals
        go_wp2
        go_ret
        refine ⟨rfl, (H0.out.set 2 (.int .i64 0)).drew, Fr.drew ?_⟩
        repeat (refine Fr.setCell ?_ (.inl (by simp)) _)
        exact Fr.refl _ _
  | false =>
    cases err
    · go_enter Tryz.func92, Tryz.ntmps92
      go_wp2
      go_region
      all_goals
        go_wp2
        go_ret
        refine ⟨rfl, H1.out.drew, Fr.drew ?_⟩
        repeat (refine Fr.setCell ?_ (.inl (by simp)) _)
        exact Fr.refl _ _
    · go_enter Tryz.func92, Tryz.ntmps92
      go_wp2
      go_region
      all_goals
        go_wp2
        go_ret
        refine ⟨rfl, H0.out.drew, Fr.drew ?_⟩
        repeat (refine Fr.setCell ?_ (.inl (by simp)) _)
        exact Fr.refl _ _
theorem fr_drewN {S : List Nat} {a w : World} (h : Fr S a w) (n : Nat) : Fr S a (w.drewN n) := ⟨h.os, h.tape, h.output, h.size, h.block⟩
/-- What the walk is handed of a call's box. -/
theorem box_all {w : World} {g : Nat} {c0 c1 c2 c3 c4 c5 c6 c7 c8 c9 c10 c11 : Value} (h : w.heap[g]? = some (.cells #[c0, c1, c2, c3, c4, c5, c6, c7, c8, c9, c10, c11] 38 (0, 0))) :
    w.cell? ⟨g, 0, none⟩ = some c0 ∧ w.cell? ⟨g, 1, none⟩ = some c1 ∧ w.cell? ⟨g, 2, none⟩ = some c2 ∧ w.cell? ⟨g, 3, none⟩ = some c3 ∧ w.cell? ⟨g, 4, none⟩ = some c4 ∧ w.cell? ⟨g, 5, none⟩ = some c5 ∧ w.cell? ⟨g, 6, none⟩ = some c6 ∧ w.cell? ⟨g, 7, none⟩ = some c7 ∧ w.cell? ⟨g, 8, none⟩ = some c8 ∧ w.cell? ⟨g, 9, none⟩ = some c9 ∧ w.cell? ⟨g, 10, none⟩ = some c10 ∧ w.cell? ⟨g, 11, none⟩ = some c11 := by
  refine ⟨?_, ?_, ?_, ?_, ?_, ?_, ?_, ?_, ?_, ?_, ?_, ?_⟩
  all_goals (rw [cell_of_row w g _ _ 38 _ h]; rfl)
theorem cat_lists (w : World) (a c : List UInt8) (h : a.length + c.length ≤ 9223372036854775807) : (Op.stringOp .add ⟨a.toArray⟩ ⟨c.toArray⟩).run Tryz.prog w = .ok (.string ⟨(a ++ c).toArray⟩) w := by
  rw [run_string_add_sum w _ _ (by simpa [ByteArray.size] using h), ByteArray.mk_append_mk]
end Go.Proofs.YtaaogjhaokaggaaGreatDoor
