/- PROVED HERE: impl.anyPlain (func 25) of the kinds that laws.FnWriteMsg asks, and impl.marshaler (func 32) of the messages that it asks. CONDITIONS: those ahead of each theorem. -/
import Derived.Test.YtpkkgngpjeoffaaGreatDoorMqT
import Derived.Laws.IdiomStrings
namespace Go.Proofs.YtpkkgngpjeoffaaGreatDoor
open Go.RowKit

theorem own_bytes (w : World) (s : ByteArray) (hs : s.size ≤ 1000000) : Own (w.drew.alloc (.cells (bytesRow s (grownCap w s.size 0 5)) 5 ((bytesRow s (grownCap w s.size 0 5)).size, (bytesRow s (grownCap w s.size 0 5)).size + 1))) 5 (.slice (some ⟨w.heap.size, 0, none⟩) s.size (grownCap w s.size 0 5)) s.data.toList := by
  have hge := grownCap_ge w s.size 0 5
  have hle := grownCap_le_maxLen w s.size 0 5 (by unfold maxLen; omega)
  have hl : s.data.toList.length = s.size := by simp
  generalize grownCap w s.size 0 5 = cap at hge hle
  have hsz : (bytesRow s cap).size = cap := by
    unfold bytesRow
    rw [Array.size_append, Array.size_map, Array.size_replicate]
    have : s.data.size = s.size := rfl
    omega
  refine .inr ⟨w.heap.size, cap, by rw [hl], _, _, heap_alloc_new w.drew _, fun j hj h => by simp only at h; omega, by omega, by omega, hle, ?_⟩
  rw [hl]
  unfold bytesRow bvs
  have : s.data.size = s.size := rfl
  rw [Array.toList_append, List.take_append_of_le_length (by simp)]
  rw [List.take_of_length_le (by simp)]
  simp [bv]
theorem own_bytes2 (w : World) (o : Obj) (s : ByteArray) (hs : s.size ≤ 1000000) : Own (((w.alloc o).alloc (.cells (bytesRow s (grownCap (w.alloc o) s.size 0 5)) 5 ((bytesRow s (grownCap (w.alloc o) s.size 0 5)).size, (bytesRow s (grownCap (w.alloc o) s.size 0 5)).size + 1))).drew) 5 (.slice (some ⟨w.heap.size + 1, 0, none⟩) s.size (grownCap (w.alloc o) s.size 0 5)) s.data.toList := by
  have h := own_bytes (w.alloc o) s hs
  have e : (w.alloc o).heap.size = w.heap.size + 1 := by simp
  rw [e] at h
  exact h
abbrev plV (k : Int) (s : ByteArray) (n : Int) (f : Nat) (b : Bool) : Value := .agg #[.int .i64 k, .string s, .int .i64 n, .int .u64 0, .float .f64 f, .bool b, .int .i64 0]
abbrev mgV (k : Int) (s : ByteArray) (n : Int) (f : Nat) (b : Bool) : Value := .agg #[.int .i64 k, .string s, .int .i64 n, .float .f64 f, .bool b, .string { data := #[] }, .int .i64 0, .bool false]
theorem row_cells7 {w : World} {g : Nat} {a0 a1 a2 a3 a4 a5 a6 : Value} (h : w.heap[g]? = some (.cells #[a0, a1, a2, a3, a4, a5, a6] 32 (0, 0))) :
    w.cell? ⟨g, 0, none⟩ = some a0 ∧ w.cell? ⟨g, 1, none⟩ = some a1 ∧ w.cell? ⟨g, 2, none⟩ = some a2 ∧ w.cell? ⟨g, 3, none⟩ = some a3 ∧ w.cell? ⟨g, 4, none⟩ = some a4 ∧ w.cell? ⟨g, 5, none⟩ = some a5 ∧ w.cell? ⟨g, 6, none⟩ = some a6 :=
  ⟨cell_of_row w g 0 _ 32 _ h, cell_of_row w g 1 _ 32 _ h, cell_of_row w g 2 _ 32 _ h, cell_of_row w g 3 _ 32 _ h, cell_of_row w g 4 _ 32 _ h, cell_of_row w g 5 _ 32 _ h, cell_of_row w g 6 _ 32 _ h⟩
/-- What anyPlain hands back. -/
def AnyQ (w : World) (V : World → Value → Prop) (e : Ending) (w' : World) : Prop := ∃ v, e = .returned v ∧ V w' v ∧ Fr [] w w'
set_option maxRecDepth 100000 in
theorem any_str (s : ByteArray) (sv : Value) (w : World) : Calls Tryz.prog 25 #[plV 1 s 0 0 false, sv] w (AnyQ w fun _ v => v = .iface 9 (.string s)) := by
  go_enter Tryz.func25, Tryz.ntmps25
  go_wp2_with fail
  go_ret
  exact ⟨_, rfl, rfl, (Fr.refl [] w).alloc _⟩
set_option maxRecDepth 100000 in
theorem any_bool (b : Bool) (sv : Value) (w : World) : Calls Tryz.prog 25 #[plV 4 ⟨#[]⟩ 0 0 b, sv] w (AnyQ w fun _ v => v = .iface 4 (.bool b)) := by
  go_enter Tryz.func25, Tryz.ntmps25
  go_wp2_with fail
  go_ret
  exact ⟨_, rfl, rfl, (Fr.refl [] w).alloc _⟩
set_option maxRecDepth 100000 in
theorem any_float (f : Nat) (sv : Value) (w : World) : Calls Tryz.prog 25 #[plV 5 ⟨#[]⟩ 0 f false, sv] w (AnyQ w fun _ v => v = .iface 30 (.float .f64 f)) := by
  go_enter Tryz.func25, Tryz.ntmps25
  go_wp2_with fail
  go_ret
  exact ⟨_, rfl, rfl, (Fr.refl [] w).alloc _⟩
set_option maxRecDepth 100000 in
theorem any_nil (sv : Value) (w : World) : Calls Tryz.prog 25 #[plV 0 ⟨#[]⟩ 0 0 false, sv] w (AnyQ w fun _ v => v = .nilIface) := by
  go_enter Tryz.func25, Tryz.ntmps25
  go_wp2_with fail
  go_ret
  exact ⟨_, rfl, rfl, (Fr.refl [] w).alloc _⟩
set_option maxRecDepth 100000 in
theorem signed_any (n : Int) (w : World) : Calls Tryz.prog 60 #[plV 6 ⟨#[]⟩ n 0 false] w (AnyQ w fun _ v => v = .iface 3 (.int .i64 n)) := by
  go_enter Tryz.func60, Tryz.ntmps60
  go_wp2_with fail
  go_ret
  exact ⟨_, rfl, rfl, (Fr.refl [] w).alloc _⟩
set_option maxRecDepth 100000 in
theorem any_int (n : Int) (sv : Value) (w : World) : Calls Tryz.prog 25 #[plV 6 ⟨#[]⟩ n 0 false, sv] w (AnyQ w fun _ v => v = .iface 3 (.int .i64 n)) := by
  have HS := Lib.hid (fun w => signed_any n w)
  go_enter Tryz.func25, Tryz.ntmps25
  go_wp2_with (go_at_call 60; refine (HS.out _).mono ?_; rintro e w1 ⟨v, rfl, rfl, hf⟩; have HF := Lib.hid hf; clear hf)
  go_ret
  exact ⟨_, rfl, rfl, ((Fr.refl [] w).alloc _).trans HF.out⟩
set_option maxRecDepth 100000 in
theorem any_bytes (s : ByteArray) (hs : s.size ≤ 1000000) (sv : Value) (w : World) : Calls Tryz.prog 25 #[plV 2 s 0 0 false, sv] w (AnyQ w fun w' v => ∃ bv, v = .iface 42 bv ∧ Own w' 5 bv s.data.toList ∧ ∀ g, bv.ownBlock = some g → w.heap.size ≤ g) := by
  have hcv := fun W : World => run_bytes_of_string (P := Tryz.prog) W 9 42 5 s Tryz.underlying9 u42 Tryz.underlying5
  go_enter Tryz.func25, Tryz.ntmps25
  go_wp2_with fail
  go_ret
  refine ⟨_, rfl, ⟨_, rfl, own_bytes2 _ _ s hs, ?_⟩, (((Fr.refl [] w).alloc _).alloc _).drew⟩
  intro g hg
  simp [Value.ownBlock] at hg
  omega
theorem new_any (s : ByteArray) (w : World) : Calls Tryz.prog 59 #[.string s] w fun e w' => e = .returned (.iface 199 (.pointer (some ⟨w.heap.size, 0, none⟩))) ∧ w'.heap[w.heap.size]? = some (.cells #[.string s] 201 (0, 0)) ∧ Fr [] w w' := by
  go_enter Tryz.func59, Tryz.ntmps59
  go_wp2_with fail
  go_ret
  exact ⟨rfl, heap_alloc_new _ _, (Fr.refl [] w).alloc _⟩
set_option maxRecDepth 100000 in
theorem any_err (s : ByteArray) (sv : Value) (w : World) : Calls Tryz.prog 25 #[plV 8 s 0 0 false, sv] w (AnyQ w fun w' v => ∃ g, v = .iface 199 (.pointer (some ⟨g, 0, none⟩)) ∧ w'.heap[g]? = some (.cells #[.string s] 201 (0, 0)) ∧ w.heap.size ≤ g) := by
  have HS := Lib.hid (fun w => new_any s w)
  go_enter Tryz.func25, Tryz.ntmps25
  go_wp2_with (go_at_call 59; refine (HS.out _).mono ?_; rintro e w1 ⟨rfl, hr, hf⟩; have HF := Lib.hid hf; have HR := Lib.hid hr; clear hf hr)
  go_ret
  exact ⟨_, rfl, ⟨_, rfl, by simpa using HR.out, by simp⟩, ((Fr.refl [] w).alloc _).trans HF.out⟩
/-- What marshaler hands back. -/
def MarQ (w : World) (V : World → Value → Prop) (e : Ending) (w' : World) : Prop := ∃ v, e = .returned (.tuple #[v, .bool true]) ∧ V w' v ∧ Fr [] w w'
set_option maxRecDepth 100000 in
theorem mar_blob (s : ByteArray) (hs : s.size ≤ 1000000) (w : World) : Calls Tryz.prog 32 #[mgV 36 s 0 0 false, .bool true] w (MarQ w fun w' v => ∃ bv, v = .iface 86 (.agg #[bv, .bool false]) ∧ Own w' 5 bv s.data.toList ∧ ∀ g, bv.ownBlock = some g → w.heap.size ≤ g) := by
  have hcv := fun W : World => run_bytes_of_string (P := Tryz.prog) W 9 42 5 s Tryz.underlying9 u42 Tryz.underlying5
  go_enter Tryz.func32, Tryz.ntmps32
  go_wp2_with fail
  go_ret2
  refine ⟨_, rfl, ⟨_, rfl, own_bytes2 _ _ s hs, ?_⟩, (((Fr.refl [] w).alloc _).alloc _).drew⟩
  intro g hg
  simp [Value.ownBlock] at hg
  omega
set_option maxRecDepth 100000 in
theorem mar_err (s : ByteArray) (hs : s.size ≤ 1000000) (w : World) : Calls Tryz.prog 32 #[mgV 33 s 0 0 false, .bool true] w (MarQ w fun w' v => ∃ bv, v = .iface 118 (.agg #[bv]) ∧ Own w' 5 bv s.data.toList ∧ ∀ g, bv.ownBlock = some g → w.heap.size ≤ g) := by
  have hcv := fun W : World => run_bytes_of_string (P := Tryz.prog) W 9 42 5 s Tryz.underlying9 u42 Tryz.underlying5
  go_enter Tryz.func32, Tryz.ntmps32
  go_wp2_with fail
  go_ret2
  refine ⟨_, rfl, ⟨_, rfl, own_bytes2 _ _ s hs, ?_⟩, (((Fr.refl [] w).alloc _).alloc _).drew⟩
  intro g hg
  simp [Value.ownBlock] at hg
  omega
set_option maxRecDepth 100000 in
theorem mar_bool (b : Bool) (w : World) : Calls Tryz.prog 32 #[mgV 35 ⟨#[]⟩ 0 0 b, .bool true] w (MarQ w fun _ v => v = .iface 129 (.agg #[.bool b])) := by
  go_enter Tryz.func32, Tryz.ntmps32
  go_wp2_with fail
  go_ret2
  exact ⟨_, rfl, rfl, (Fr.refl [] w).alloc _⟩
set_option maxRecDepth 100000 in
theorem mar_dbl (f : Nat) (w : World) : Calls Tryz.prog 32 #[mgV 44 ⟨#[]⟩ 0 f false, .bool true] w (MarQ w fun _ v => v = .iface 131 (.agg #[.float .f64 f])) := by
  go_enter Tryz.func32, Tryz.ntmps32
  go_wp2_with fail
  go_ret2
  exact ⟨_, rfl, rfl, (Fr.refl [] w).alloc _⟩
set_option maxRecDepth 100000 in
theorem mar_num (n : Int) (w : World) : Calls Tryz.prog 32 #[mgV 58 ⟨#[]⟩ n 0 false, .bool true] w (MarQ w fun _ v => v = .iface 140 (.agg #[.int .i64 n])) := by
  go_enter Tryz.func32, Tryz.ntmps32
  go_wp2_with fail
  go_ret2
  exact ⟨_, rfl, rfl, (Fr.refl [] w).alloc _⟩
set_option maxRecDepth 100000 in
theorem mar_nul (w : World) : Calls Tryz.prog 32 #[mgV 95 ⟨#[]⟩ 0 0 false, .bool true] w (MarQ w fun _ v => v = .iface 133 (.agg #[])) := by
  go_enter Tryz.func32, Tryz.ntmps32
  go_wp2_with fail
  go_ret2
  exact ⟨_, rfl, rfl, (Fr.refl [] w).alloc _⟩
end Go.Proofs.YtpkkgngpjeoffaaGreatDoor
