import Derived.Test.YtaaogjhaokaggaaGreatDoorKeyB
import Derived.Test.YtaaogjhaokaggaaGreatDoorValA
import Derived.Laws.ResultCell
namespace Go.Proofs.YtaaogjhaokaggaaGreatDoor
open Go.RowKit

theorem u5 : Tryz.prog.underlying 5 = some (.int .u8) := Tryz.underlying5

/-- '[]byte(s)'. -/
theorem conv_str (s : ByteArray) (hs : s.size ≤ 1000000000) (w : World) : ∃ c w', (convert 9 66 (.string s)).run Tryz.prog w = .ok (.slice (some ⟨w.heap.size, 0, none⟩) s.size c) w' ∧ Own w' 5 (.slice (some ⟨w.heap.size, 0, none⟩) s.size c) s.data.toList ∧ Fr [] w w' := by
  have e0 : s.data.toList.length = s.size := by simp
  have hge := grownCap_ge w s.size 0 5
  refine ⟨_, _, run_bytes_of_string w 9 66 5 s u9 u66 u5, .inr ⟨w.heap.size, grownCap w s.size 0 5, by rw [e0], ?_⟩, ((Fr.refl [] w).drew).alloc _⟩
  have hsz : (bytesRow s (grownCap w s.size 0 5)).size = s.size + (grownCap w s.size 0 5 - s.size) := by
    unfold bytesRow
    rw [Array.size_append, Array.size_map, Array.size_replicate]
    rfl
  refine ⟨_, _, heap_alloc_new w.drew _, fun j hj h => by omega, by rw [hsz]; omega, by omega, grownCap_le_maxLen w _ _ _ (by unfold maxLen; omega), ?_⟩
  refine take_bvs (n := s.size) (fun i hi => ?_) e0 (by rw [hsz]; omega)
  have hi' : i < s.data.size := hi
  rw [bytesRow_at s _ i hi', bvs_at (by simpa using hi')]
  simp [bv]

theorem results_row_tmp {P : Program} {fn : Func} {p u : Tmp} {ty : TypeId} (h : fn.results = #[.cell p ty, .tmp u]) (tmps : Array Value) (w : World) (g : Nat) (t : TypeId) (cs : Array Value) (fr : Nat × Nat) (d : TypeDesc)
    (hp : tmps.getD p undef = .pointer (some ⟨g, 0, none⟩)) (hg : w.heap[g]? = some (.cells cs t fr))
    (hu : P.underlying ty = some d) (hd : (match d with | .struct _ | .array _ _ => true | _ => false) = true) (hi : (P.info? ty).map (·.size) = some cs.size) :
    (results fn tmps).run P w = .ok (.tuple #[.agg cs, tmps.getD u undef]) w := by
  rw [results_cell_tmp h, hp]
  simp [asAddr, run_loadVar_row w g t ty cs fr d hg hu hd hi]

/-- A value made by a constructor: none if it can't be. -/
def Made (w : World) (r : Option Val) (e : Ending) (w' : World) : Prop :=
  Fr [] w w' ∧ match r with
  | some x => ∃ v, e = .returned (.tuple #[v, .bool true]) ∧ LV w' v x ∧ ∀ g, lvBlock v = some g → w.heap.size ≤ g
  | none => ∃ v, e = .returned (.tuple #[v, .bool false]) ∧ ∃ n a c d k, v = .agg #[.int .u64 n, .slice a c d, .int .u8 k]

set_option maxRecDepth 100000 in
set_option maxHeartbeats 1000000 in
theorem stringValue_any (hV : ValidSaid) {B : Nat} {ea : Addr} (s : ByteArray) (hs : s.size ≤ 1000000) (w : World) (hG : Gv B ea w) :
    Calls Tryz.prog 58 #[.string s] w (Made w (if Lib.validD s.data.toList then some (.str s.data.toList) else none)) := by
  have hV' := fun (w : World) (hG : Gv B ea w) => hV s w (by omega) hG.utf8
  have hGa := hG.fr ((Fr.refl [] w).alloc (.cells #[.int .u64 0, .slice none 0 0, .int .u8 0] 69)) (by simp)
  have HV := Lib.hid (hV' _ hGa); clear hV' hG hGa
  have HA := Lib.hid (heap_alloc_new w (.cells #[.int .u64 0, .slice none 0 0, .int .u8 0] 69))
  cases hv : Lib.validD s.data.toList with
  | false =>
    rw [hv] at HV
    clear hv
    go_enter Tryz.func58, Tryz.ntmps58
    go_wp2_with (go_at_call 99; refine HV.out.mono ?_; rintro e w1 ⟨rfl, hb1⟩; have hf1 := Fr.of_below hb1; clear hb1; have HB1 := Lib.hid (hf1.blk HA.out (by simp)); have d0 := cell_of_row w1 w.heap.size 0 _ 69 _ HB1.out; have d1 := cell_of_row w1 w.heap.size 1 _ 69 _ HB1.out; have d2 := cell_of_row w1 w.heap.size 2 _ 69 _ HB1.out; have f0 := frozen_of_row w1 w.heap.size 0 _ 69 HB1.out; have f1 := frozen_of_row w1 w.heap.size 1 _ 69 HB1.out; have f2 := frozen_of_row w1 w.heap.size 2 _ 69 HB1.out)
    (try simp only [Exit.inBlock, Exit.then])
    refine bodyPost_ret (results_row_tmp rfl _ _ w.heap.size 69 #[.int .u64 0, .slice none 0 0, .int .u8 0] (0, 0) _ rfl ?_ Tryz.underlying69 rfl rfl) rfl ?_
    · exact heap_setCell_same _ _ 2 _ 69 _ (heap_setCell_same _ _ 1 _ 69 _ (heap_setCell_same _ _ 0 _ 69 _ HB1.out))
    · refine ⟨?_, _, rfl, _, _, _, _, _, rfl⟩
      repeat (refine Fr.setCell ?_ (.inr (by simp)) _)
      exact ((Fr.refl [] w).alloc _).trans hf1
  | true =>
    rw [hv] at HV
    clear hv
    go_enter Tryz.func58, Tryz.ntmps58
    go_wp2_with (go_at_call 99; refine HV.out.mono ?_; rintro e w1 ⟨rfl, hb1⟩; have hf1 := Fr.of_below hb1; clear hb1; obtain ⟨c, w2, hcv, ho2, hf2⟩ := conv_str s (by omega) w1; have HO2 := Lib.hid ho2; clear ho2; have HB2 := Lib.hid ((hf1.trans hf2).blk HA.out (by simp)); have d0 := cell_of_row w2 w.heap.size 0 _ 69 _ HB2.out; have d1 := cell_of_row w2 w.heap.size 1 _ 69 _ HB2.out; have d2 := cell_of_row w2 w.heap.size 2 _ 69 _ HB2.out; have f0 := frozen_of_row w2 w.heap.size 0 _ 69 HB2.out; have f1 := frozen_of_row w2 w.heap.size 1 _ 69 HB2.out; have f2 := frozen_of_row w2 w.heap.size 2 _ 69 HB2.out)
    (try simp only [Exit.inBlock, Exit.then])
    have hsz : w.heap.size < w1.heap.size := by have := hf1.size; simp at this; omega
    refine bodyPost_ret (results_row_tmp rfl _ _ w.heap.size 69 #[.int .u64 0, .slice (some ⟨w1.heap.size, 0, none⟩) s.size c, .int .u8 0] (0, 0) _ rfl ?_ Tryz.underlying69 rfl rfl) rfl ?_
    · exact heap_setCell_same _ _ 2 _ 69 _ (heap_setCell_same _ _ 1 _ 69 _ (heap_setCell_same _ _ 0 _ 69 _ HB2.out))
    · refine ⟨?_, _, rfl, ⟨_, rfl, ?_⟩, fun g hg => ?_⟩
      · repeat (refine Fr.setCell ?_ (.inr (by simp)) _)
        exact (((Fr.refl [] w).alloc _).trans hf1).trans hf2
      · refine HO2.out.fr (S := [w.heap.size]) ((((Fr.refl _ w2).setCell (.inl (by simp)) _).setCell (.inl (by simp)) _).setCell (.inl (by simp)) _) (fun g hg hm => ?_)
        simp [Value.ownBlock] at hg
        simp at hm
        omega
      · simp [lvBlock, Value.ownBlock] at hg
        omega
end Go.Proofs.YtaaogjhaokaggaaGreatDoor
namespace Go.Proofs.YtaaogjhaokaggaaGreatDoor
open Go.RowKit

def zval : Obj := .cells #[.int .u64 0, .slice none 0 0, .int .u8 0] 69 (0, 0)

theorem wrapU (n : Int) : IntKind.u64.wrap n = n % 18446744073709551616 := by rw [IntKind.wrap_u64]

set_option maxRecDepth 100000 in
theorem intValue_any (n : Int) (w : World) :
    Calls Tryz.prog 59 #[.int .i64 n] w fun e w' => e = .returned (.agg #[.int .u64 (n % 18446744073709551616), .slice none 0 0, .int .u8 2]) ∧ Fr [] w w' := by
  go_enter Tryz.func59, Tryz.ntmps59
  go_wp2
  (try simp only [Exit.inBlock, Exit.then])
  refine bodyPost_ret (results_cell_row rfl _ _ w.heap.size 69 #[.int .u64 (IntKind.u64.wrap n), .slice none 0 0, .int .u8 2] (0, 0) _ rfl (heap_alloc_new _ _) Tryz.underlying69 rfl rfl) rfl ?_
  exact ⟨by rw [wrapU], (Fr.refl [] w).alloc _⟩
set_option maxRecDepth 100000 in
theorem uintValue_any (n : Int) (w : World) :
    Calls Tryz.prog 60 #[.int .u64 n] w fun e w' => e = .returned (.agg #[.int .u64 n, .slice none 0 0, .int .u8 3]) ∧ Fr [] w w' := by
  go_enter Tryz.func60, Tryz.ntmps60
  go_wp2
  (try simp only [Exit.inBlock, Exit.then])
  refine bodyPost_ret (results_cell_row rfl _ _ w.heap.size 69 #[.int .u64 n, .slice none 0 0, .int .u8 3] (0, 0) _ rfl (heap_alloc_new _ _) Tryz.underlying69 rfl rfl) rfl ?_
  exact ⟨rfl, (Fr.refl [] w).alloc _⟩
set_option maxRecDepth 100000 in
theorem boolValue_any (x : Bool) (w : World) :
    Calls Tryz.prog 62 #[.bool x] w fun e w' => e = .returned (.agg #[.int .u64 (if x then 1 else 0), .slice none 0 0, .int .u8 5]) ∧ Fr [] w w' := by
  cases x
  · simp only [Bool.false_eq_true, if_false]
    go_enter Tryz.func62, Tryz.ntmps62
    go_wp2
    (try simp only [Exit.inBlock, Exit.then])
    refine bodyPost_ret (results_cell_row rfl _ _ w.heap.size 69 #[.int .u64 0, .slice none 0 0, .int .u8 5] (0, 0) _ rfl (heap_alloc_new _ _) Tryz.underlying69 rfl rfl) rfl ?_
    exact ⟨rfl, (Fr.refl [] w).alloc _⟩
  · simp only [if_true]
    go_enter Tryz.func62, Tryz.ntmps62
    go_wp2
    (try simp only [Exit.inBlock, Exit.then])
    refine bodyPost_ret (results_cell_row rfl _ _ w.heap.size 69 #[.int .u64 1, .slice none 0 0, .int .u8 5] (0, 0) _ rfl (heap_alloc_new _ _) Tryz.underlying69 rfl rfl) rfl ?_
    exact ⟨rfl, (Fr.refl [] w).alloc _⟩

/-- A value to be made (impl.Value), as data. -/
structure VD where
  kind : Int
  s : ByteArray
  n : Int
  u : Nat
  f : Nat
  b : Bool
def VD.cells (d : VD) : Array Value := #[.int .i64 d.kind, .string d.s, .int .i64 d.n, .int .u64 d.u, .float .f64 d.f, .bool d.b]
/-- Is a number finite? -/
def fin64 (n : Nat) : Bool := (n / 4503599627370496) % 2048 != 2047
def VD.made (d : VD) : Option Val :=
  if d.kind = 1 then (if Lib.validD d.s.data.toList then some (.str d.s.data.toList) else none)
  else if d.kind = 2 then some (.int d.n)
  else if d.kind = 3 then some (.uint d.u)
  else if d.kind = 4 then (if fin64 d.f then some (.flt d.f) else none)
  else if d.kind = 5 then some (.bool d.b)
  else none
structure VD.Ok (d : VD) : Prop where
  s : d.s.size ≤ 1000000
  n0 : -9223372036854775808 ≤ d.n
  n1 : d.n ≤ 9223372036854775807
  u : d.u < 18446744073709551616

/-- FloatValue. -/
def FloatValueSaid : Prop := ∀ (n : Nat) (w : World), Calls Tryz.prog 61 #[.float .f64 n] w (Made w (if fin64 n then some (.flt n) else none))

theorem made_alloc {w : World} {o : Obj} {r : Option Val} {e : Ending} {w' : World} (h : Made (w.alloc o) r e w') : Made w r e w' := by
  refine ⟨((Fr.refl [] w).alloc o).trans h.1, ?_⟩
  have h2 := h.2
  cases r with
  | none => exact h2
  | some x => obtain ⟨v, h3, h4, h5⟩ := h2; exact ⟨v, h3, h4, fun g hg => by have := h5 g hg; simp at this; omega⟩
end Go.Proofs.YtaaogjhaokaggaaGreatDoor
