/- PROVED HERE: a part of round r2's proofs (text OptT): lemmas and walks that later texts use. CONDITIONS: those written ahead of each theorem. -/
import Derived.Test.YtpkkgngpjeoffaaGreatDoorPutT
namespace Go.Proofs.YtpkkgngpjeoffaaGreatDoor
open Go.RowKit

/-- resp.Opts: block o; its GetBytes and PutBytes are those of the pool bp. -/
def OptsS (w : World) (o bp : Nat) : Prop := ∃ c2 c3 c4, w.heap[o]? = some (.cells #[.func (.func 39) #[.pointer (some ⟨bp, 0, none⟩)] #[], .func (.func 40) #[.pointer (some ⟨bp, 0, none⟩)] #[], c2, c3, c4, .bool false, .bool false] 94 (0, 0))
def NewQ (w : World) (e : Ending) (w' : World) : Prop :=
  ∃ o bp, e = .returned (.pointer (some ⟨o, 0, none⟩)) ∧ Fr [] w w' ∧ OptsS w' o bp ∧ PoolS w' bp (.slice none 0 0) none ∧ w.heap.size ≤ o ∧ w.heap.size ≤ bp ∧ o ≠ bp
set_option maxRecDepth 100000 in
set_option maxHeartbeats 1000000 in
theorem newOpts_any (w : World) : Calls Tryz.prog 16 #[] w (NewQ w) := by
  have hmf : ∀ (fn : Fn) (first cap : Array Value) (w : World), (Instr.makeFunc fn first cap).run Tryz.prog w = .ok (.func fn first cap) w := fun _ _ _ _ => rfl
  have h37 : ∀ W : World, Calls Tryz.prog 37 #[.int .i64 10000000] W fun e w' => e = .returned (.pointer (some ⟨W.heap.size, 0, none⟩)) ∧ w' = W.alloc (.cells #[.int .i64 0, .int .i64 10000000, .slice none 0 0] 174) := by
    intro W
    go_enter Tryz.func37, Tryz.ntmps37
    go_wp2_with fail
    go_ret
    exact ⟨rfl, rfl⟩
  have h38 : ∀ W : World, Calls Tryz.prog 38 #[] W fun e w' => e = .returned (.pointer (some ⟨W.heap.size, 0, none⟩)) ∧ w' = W.alloc (.cells #[.slice none 0 0] 177) := by
    intro W
    go_enter Tryz.func38, Tryz.ntmps38
    go_wp2_with fail
    go_ret
    exact ⟨rfl, rfl⟩
  have H37 := Lib.hid h37
  have H38 := Lib.hid h38
  clear h37 h38
  go_enter Tryz.func16, Tryz.ntmps16
  go_wp2_with (first
    | (go_at_call 37; refine (H37.out _).mono ?_; rintro e w1 ⟨rfl, rfl⟩)
    | (go_at_call 38; refine (H38.out _).mono ?_; rintro e w2 ⟨rfl, rfl⟩))
  go_ret
  refine ⟨_, w.heap.size, rfl, ((((Fr.refl [] w).alloc _).alloc _).alloc _), ⟨.func (.func 41) #[.pointer (some ⟨w.heap.size + 1, 0, none⟩)] #[], .func (.func 42) #[] #[], .func (.func 44) #[] #[], ?_⟩, ⟨⟨0, ?_⟩, OwnC.nil _ _ _⟩, by omega, Nat.le_refl _, by omega⟩
  · have := heap_alloc_new ((w.alloc (.cells #[.int .i64 0, .int .i64 10000000, .slice none 0 0] 174)).alloc (.cells #[.slice none 0 0] 177)) (.cells #[.func (.func 39) #[.pointer (some ⟨w.heap.size, 0, none⟩)] #[], .func (.func 40) #[.pointer (some ⟨w.heap.size, 0, none⟩)] #[], .func (.func 41) #[.pointer (some ⟨w.heap.size + 1, 0, none⟩)] #[], .func (.func 42) #[] #[], .func (.func 44) #[] #[], .bool false, .bool false] 94)
    simpa using this
  · exact (((Fr.refl [] (w.alloc (.cells #[.int .i64 0, .int .i64 10000000, .slice none 0 0] 174))).alloc (.cells #[.slice none 0 0] 177)).alloc _).blk (heap_alloc_new w (.cells #[.int .i64 0, .int .i64 10000000, .slice none 0 0] 174)) List.not_mem_nil
end Go.Proofs.YtpkkgngpjeoffaaGreatDoor
