import Derived.Test.YtaaogjhaokaggaaGreatDoorGl
import Derived.RegionTactic
import Derived.BigRegion
namespace Go.Proofs.YtaaogjhaokaggaaGreatDoor
open Go.RowKit

/-- An encoder's nine cells at the head of block b. -/
def ER (w : World) (b : Nat) (cs : Array Value) : Prop := w.heap[b]? = some (.cells cs 85 (0, 0))
theorem ER.set {w : World} {b : Nat} {cs : Array Value} (h : ER w b cs) (i : Nat) (v : Value) : ER (w.setCell ⟨b, i, none⟩ v) b (cs.setIfInBounds i v) := heap_setCell_same w b i cs 85 v h
theorem ER.cell {w : World} {b : Nat} {cs : Array Value} (h : ER w b cs) (i : Nat) : w.cell? ⟨b, i, none⟩ = cs[i]? := cell_of_row w b i cs 85 _ h
theorem ER.free {w : World} {b : Nat} {cs : Array Value} (h : ER w b cs) (i : Nat) : w.frozen? ⟨b, i, none⟩ = false := frozen_of_row w b i cs 85 h
theorem ER.fr {S : List Nat} {w w' : World} {b : Nat} {cs : Array Value} (h : ER w b cs) (f : Fr S w w') (hb : b ∉ S) : ER w' b cs := f.blk h hb
theorem ER.drew {w : World} {b : Nat} {cs : Array Value} (h : ER w b cs) : ER w.drew b cs := h
theorem ER.ne {w : World} {b : Nat} {cs : Array Value} (h : ER w b cs) {v : Value} {l : List UInt8} (ho : Own w 5 v l) : v.ownBlock ≠ some b := by
  rcases ho with ⟨rfl, _⟩ | ⟨g, cap, rfl, cur, fr, h1, _⟩
  · simp [Value.ownBlock]
  · intro e
    simp [Value.ownBlock] at e
    subst e
    unfold ER at h
    rw [h] at h1
    simp at h1
/-- What the walk is handed of the nine cells. -/
theorem ER.all {w : World} {b : Nat} {c0 c1 c2 c3 c4 c5 c6 c7 c8 : Value} (h : ER w b #[c0, c1, c2, c3, c4, c5, c6, c7, c8]) :
    (w.cell? ⟨b, 0, none⟩ = some c0 ∧ w.cell? ⟨b, 1, none⟩ = some c1 ∧ w.cell? ⟨b, 2, none⟩ = some c2 ∧ w.cell? ⟨b, 3, none⟩ = some c3 ∧ w.cell? ⟨b, 4, none⟩ = some c4 ∧ w.cell? ⟨b, 5, none⟩ = some c5 ∧ w.cell? ⟨b, 6, none⟩ = some c6 ∧ w.cell? ⟨b, 7, none⟩ = some c7 ∧ w.cell? ⟨b, 8, none⟩ = some c8) ∧
    (w.frozen? ⟨b, 0, none⟩ = false ∧ w.frozen? ⟨b, 1, none⟩ = false ∧ w.frozen? ⟨b, 2, none⟩ = false ∧ w.frozen? ⟨b, 3, none⟩ = false ∧ w.frozen? ⟨b, 4, none⟩ = false ∧ w.frozen? ⟨b, 5, none⟩ = false ∧ w.frozen? ⟨b, 6, none⟩ = false ∧ w.frozen? ⟨b, 7, none⟩ = false ∧ w.frozen? ⟨b, 8, none⟩ = false) := by
  refine ⟨⟨?_, ?_, ?_, ?_, ?_, ?_, ?_, ?_, ?_⟩, h.free _, h.free _, h.free _, h.free _, h.free _, h.free _, h.free _, h.free _, h.free _⟩
  all_goals (rw [h.cell]; rfl)

/-- A slice cut to a length. -/
def cutTo : Value → Nat → Value
  | .slice a _ c, n => .slice a n c
  | v, _ => v
theorem Own.cut {w : World} {v : Value} {l : List UInt8} (h : Own w 5 v l) (n : Nat) (hn : n ≤ l.length) : Own w 5 (cutTo v n) (l.take n) ∧ (cutTo v n).ownBlock = v.ownBlock := by
  rcases h with ⟨rfl, rfl⟩ | ⟨g, cap, rfl, cur, fr, h1, h2, h3, h4, h5, h6⟩
  · have : n = 0 := by simpa using hn
    subst this
    exact ⟨.inl ⟨rfl, rfl⟩, rfl⟩
  · refine ⟨.inr ⟨g, cap, by simp [cutTo, Nat.min_eq_left hn], cur, fr, h1, h2, h3, by simp; omega, h5, ?_⟩, rfl⟩
    have := congrArg (List.take n) h6
    rw [List.take_take, Nat.min_eq_left hn] at this
    rw [List.length_take, Nat.min_eq_left hn, this]
    simp [bvs]

set_option maxHeartbeats 2000000 in
set_option maxRecDepth 100000 in
theorem setErr_0n (b : Nat) (a : Option Addr) (n cap : Nat) (vk : Value) (sec : Int) (lax bad : Bool) (pi : Int) (mul : Value) (ev : Value) (w : World)
    (h : ER w b #[.slice a n cap, vk, .int .i64 0, .int .u8 sec, .bool lax, .bool bad, .nilIface, .int .i64 pi, mul]) :
    Calls Tryz.prog 114 #[.pointer (some ⟨b, 0, none⟩), .iface 195 ev] w fun e w' => e = .returned (.tuple #[]) ∧ ER w' b #[.slice a 0 cap, vk, .int .i64 0, .int .u8 0, .bool lax, .bool true, .iface 195 ev, .int .i64 pi, mul] ∧ Fr [b] w w' := by
  obtain ⟨⟨c0, c1, c2, c3, c4, c5, c6, c7, c8⟩, f0, f1, f2, f3, f4, f5, f6, f7, f8⟩ := h.all
  have H := Lib.hid h; clear h
  go_enter Tryz.func114, Tryz.ntmps114
  go_wp2
  go_region
  all_goals
    go_wp2
    go_end0
    refine ⟨rfl, (((H.out.set 5 (.bool true)).set 6 (.iface 195 ev)).set 0 (.slice a 0 cap)).set 3 (.int .u8 0), ?_⟩
    refine Fr.drew ?_
    repeat (refine Fr.setCell ?_ (.inl (by simp)) _)
    exact Fr.refl _ _

set_option maxHeartbeats 2000000 in
set_option maxRecDepth 100000 in
theorem setErr_0s (b : Nat) (a : Option Addr) (n cap : Nat) (vk : Value) (sec : Int) (lax bad : Bool) (pi : Int) (mul : Value) (t : TypeId) (x : Value) (ev : Value) (w : World)
    (h : ER w b #[.slice a n cap, vk, .int .i64 0, .int .u8 sec, .bool lax, .bool bad, .iface t x, .int .i64 pi, mul]) :
    Calls Tryz.prog 114 #[.pointer (some ⟨b, 0, none⟩), .iface 195 ev] w fun e w' => e = .returned (.tuple #[]) ∧ ER w' b #[.slice a 0 cap, vk, .int .i64 0, .int .u8 0, .bool lax, .bool true, .iface t x, .int .i64 pi, mul] ∧ Fr [b] w w' := by
  obtain ⟨⟨c0, c1, c2, c3, c4, c5, c6, c7, c8⟩, f0, f1, f2, f3, f4, f5, f6, f7, f8⟩ := h.all
  have H := Lib.hid h; clear h
  go_enter Tryz.func114, Tryz.ntmps114
  go_wp2
  go_region
  all_goals
    go_wp2
    go_end0
    refine ⟨rfl, ((H.out.set 5 (.bool true)).set 0 (.slice a 0 cap)).set 3 (.int .u8 0), ?_⟩
    refine Fr.drew ?_
    repeat (refine Fr.setCell ?_ (.inl (by simp)) _)
    exact Fr.refl _ _

set_option maxHeartbeats 2000000 in
set_option maxRecDepth 100000 in
theorem setErr_pn (b : Nat) (a : Option Addr) (n cap : Nat) (s0 : Nat) (h0 : 0 < s0) (h1 : s0 ≤ n) (h2 : n ≤ cap) (vk : Value) (sec : Int) (lax bad : Bool) (pi : Int) (mul : Value) (ev : Value) (w : World)
    (h : ER w b #[.slice a n cap, vk, .int .i64 s0, .int .u8 sec, .bool lax, .bool bad, .nilIface, .int .i64 pi, mul]) :
    Calls Tryz.prog 114 #[.pointer (some ⟨b, 0, none⟩), .iface 195 ev] w fun e w' => e = .returned (.tuple #[]) ∧ ER w' b #[.slice a s0 cap, vk, .int .i64 s0, .int .u8 sec, .bool lax, .bool true, .iface 195 ev, .int .i64 pi, mul] ∧ Fr [b] w w' := by
  obtain ⟨⟨c0, c1, c2, c3, c4, c5, c6, c7, c8⟩, f0, f1, f2, f3, f4, f5, f6, f7, f8⟩ := h.all
  have H := Lib.hid h; clear h
  have hne : ((s0 : Int) == 0) = false := by rw [beq_eq_false_iff_ne]; omega
  have hi0 : (0 : Int) ≤ (s0 : Int) := by omega
  go_enter Tryz.func114, Tryz.ntmps114
  go_wp2
  go_region
  all_goals
    go_wp2
    go_end0
    refine ⟨rfl, ((H.out.set 5 (.bool true)).set 6 (.iface 195 ev)).set 0 (.slice a s0 cap), ?_⟩
    refine Fr.drew ?_
    repeat (refine Fr.setCell ?_ (.inl (by simp)) _)
    exact Fr.refl _ _

set_option maxHeartbeats 2000000 in
set_option maxRecDepth 100000 in
theorem setErr_ps (b : Nat) (a : Option Addr) (n cap : Nat) (s0 : Nat) (h0 : 0 < s0) (h1 : s0 ≤ n) (h2 : n ≤ cap) (vk : Value) (sec : Int) (lax bad : Bool) (pi : Int) (mul : Value) (t : TypeId) (x : Value) (ev : Value) (w : World)
    (h : ER w b #[.slice a n cap, vk, .int .i64 s0, .int .u8 sec, .bool lax, .bool bad, .iface t x, .int .i64 pi, mul]) :
    Calls Tryz.prog 114 #[.pointer (some ⟨b, 0, none⟩), .iface 195 ev] w fun e w' => e = .returned (.tuple #[]) ∧ ER w' b #[.slice a s0 cap, vk, .int .i64 s0, .int .u8 sec, .bool lax, .bool true, .iface t x, .int .i64 pi, mul] ∧ Fr [b] w w' := by
  obtain ⟨⟨c0, c1, c2, c3, c4, c5, c6, c7, c8⟩, f0, f1, f2, f3, f4, f5, f6, f7, f8⟩ := h.all
  have H := Lib.hid h; clear h
  have hne : ((s0 : Int) == 0) = false := by rw [beq_eq_false_iff_ne]; omega
  have hi0 : (0 : Int) ≤ (s0 : Int) := by omega
  go_enter Tryz.func114, Tryz.ntmps114
  go_wp2
  go_region
  all_goals
    go_wp2
    go_end0
    refine ⟨rfl, (H.out.set 5 (.bool true)).set 0 (.slice a s0 cap), ?_⟩
    refine Fr.drew ?_
    repeat (refine Fr.setCell ?_ (.inl (by simp)) _)
    exact Fr.refl _ _

end Go.Proofs.YtaaogjhaokaggaaGreatDoor
