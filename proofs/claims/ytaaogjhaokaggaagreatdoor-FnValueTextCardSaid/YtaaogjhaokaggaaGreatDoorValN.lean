import Derived.Test.YtaaogjhaokaggaaGreatDoorValM
namespace Go.Proofs.YtaaogjhaokaggaaGreatDoor
open Go.RowKit

def zval : Obj := .cells #[.int .u64 0, .slice none 0 0, .int .u8 0] 69 (0, 0)

theorem wrapU (n : Int) : IntKind.u64.wrap n = n % 18446744073709551616 := by rw [IntKind.wrap_u64]

set_option maxRecDepth 100000 in
theorem intValue_any (n : Int) (w : World) :
    Calls Tryz.prog 59 #[.int .i64 n] w fun e w' => e = .returned (.agg #[.int .u64 (n % 18446744073709551616), .slice none 0 0, .int .u8 2]) ∧ Fr [] w w' := by
  go_enter Tryz.func59, Tryz.ntmps59
  go_wp2
  (try simp only [Exit.inBlock, Exit.then])
  refine bodyPost_ret (results_cell_row rfl _ _ w.heap.size 69 #[.int .u64 (IntKind.u64.wrap n), .slice none 0 0, .int .u8 2] (0, 0) _ rfl (heap_alloc_new _ _) Tryz.underlying69 rfl rfl) rfl ?_
  exact ⟨by rw [wrapU], (Fr.refl [] w).alloc _⟩
set_option maxRecDepth 100000 in
theorem uintValue_any (n : Int) (w : World) :
    Calls Tryz.prog 60 #[.int .u64 n] w fun e w' => e = .returned (.agg #[.int .u64 n, .slice none 0 0, .int .u8 3]) ∧ Fr [] w w' := by
  go_enter Tryz.func60, Tryz.ntmps60
  go_wp2
  (try simp only [Exit.inBlock, Exit.then])
  refine bodyPost_ret (results_cell_row rfl _ _ w.heap.size 69 #[.int .u64 n, .slice none 0 0, .int .u8 3] (0, 0) _ rfl (heap_alloc_new _ _) Tryz.underlying69 rfl rfl) rfl ?_
  exact ⟨rfl, (Fr.refl [] w).alloc _⟩
set_option maxRecDepth 100000 in
theorem boolValue_any (x : Bool) (w : World) :
    Calls Tryz.prog 62 #[.bool x] w fun e w' => e = .returned (.agg #[.int .u64 (if x then 1 else 0), .slice none 0 0, .int .u8 5]) ∧ Fr [] w w' := by
  cases x
  · simp only [Bool.false_eq_true, if_false]
    go_enter Tryz.func62, Tryz.ntmps62
    go_wp2
    (try simp only [Exit.inBlock, Exit.then])
    refine bodyPost_ret (results_cell_row rfl _ _ w.heap.size 69 #[.int .u64 0, .slice none 0 0, .int .u8 5] (0, 0) _ rfl (heap_alloc_new _ _) Tryz.underlying69 rfl rfl) rfl ?_
    exact ⟨rfl, (Fr.refl [] w).alloc _⟩
  · simp only [if_true]
    go_enter Tryz.func62, Tryz.ntmps62
    go_wp2
    (try simp only [Exit.inBlock, Exit.then])
    refine bodyPost_ret (results_cell_row rfl _ _ w.heap.size 69 #[.int .u64 1, .slice none 0 0, .int .u8 5] (0, 0) _ rfl (heap_alloc_new _ _) Tryz.underlying69 rfl rfl) rfl ?_
    exact ⟨rfl, (Fr.refl [] w).alloc _⟩

/-- A value to be made (impl.Value), as data. -/
structure VD where
  kind : Int
  s : ByteArray
  n : Int
  u : Nat
  f : Nat
  b : Bool
def VD.cells (d : VD) : Array Value := #[.int .i64 d.kind, .string d.s, .int .i64 d.n, .int .u64 d.u, .float .f64 d.f, .bool d.b]
/-- Is a number finite? -/
def fin64 (n : Nat) : Bool := (n / 4503599627370496) % 2048 != 2047
def VD.made (d : VD) : Option Val :=
  if d.kind = 1 then (if Lib.validD d.s.data.toList then some (.str d.s.data.toList) else none)
  else if d.kind = 2 then some (.int d.n)
  else if d.kind = 3 then some (.uint d.u)
  else if d.kind = 4 then (if fin64 d.f then some (.flt d.f) else none)
  else if d.kind = 5 then some (.bool d.b)
  else none
structure VD.Ok (d : VD) : Prop where
  s : d.s.size ≤ 1000000
  n0 : -9223372036854775808 ≤ d.n
  n1 : d.n ≤ 9223372036854775807
  u : d.u < 18446744073709551616

/-- FloatValue. -/
def FloatValueSaid : Prop := ∀ (n : Nat) (w : World), Calls Tryz.prog 61 #[.float .f64 n] w (Made w (if fin64 n then some (.flt n) else none))

theorem made_alloc {w : World} {o : Obj} {r : Option Val} {e : Ending} {w' : World} (h : Made (w.alloc o) r e w') : Made w r e w' := by
  refine ⟨((Fr.refl [] w).alloc o).trans h.1, ?_⟩
  have h2 := h.2
  cases r with
  | none => exact h2
  | some x => obtain ⟨v, h3, h4, h5⟩ := h2; exact ⟨v, h3, h4, fun g hg => by have := h5 g hg; simp at this; omega⟩
end Go.Proofs.YtaaogjhaokaggaaGreatDoor
