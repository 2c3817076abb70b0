import Derived.Test.YtaaogjhaokaggaaGreatDoorGoodR
import Derived.Deep.RegionLaw
namespace Go.Proofs.YtaaogjhaokaggaaGreatDoor
open Go.RowKit

def sOf (q : Nat) : List UInt8 := if q = 0 then sM else if q = 2 then sV else sK
theorem doorEscaper_any (q : Nat) (hq : q ≤ 3) (w : World) : Calls Tryz.prog 94 #[.int .i64 (q : Int)] w (MadeEsc (sOf q) w) := by
  have h : q = 0 ∨ q = 1 ∨ q = 2 ∨ q = 3 := by omega
  rcases h with rfl | rfl | rfl | rfl
  · go_enter Tryz.func94, Tryz.ntmps94
    go_wp2_with (go_at_call 116; refine (escM_any _).mono ?_; rintro e w1 ⟨rfl, h1, h2⟩)
    go_ret
    exact ⟨rfl, h1, h2⟩
  · go_enter Tryz.func94, Tryz.ntmps94
    go_wp2_with (go_at_call 117; refine (escK_any _).mono ?_; rintro e w1 ⟨rfl, h1, h2⟩)
    go_ret
    exact ⟨rfl, h1, h2⟩
  · go_enter Tryz.func94, Tryz.ntmps94
    go_wp2_with (go_at_call 118; refine (escV_any _).mono ?_; rintro e w1 ⟨rfl, h1, h2⟩)
    go_ret
    exact ⟨rfl, h1, h2⟩
  · go_enter Tryz.func94, Tryz.ntmps94
    go_wp2_with (go_at_call 119; refine (escF_any _).mono ?_; rintro e w1 ⟨rfl, h1, h2⟩)
    go_ret
    exact ⟨rfl, h1, h2⟩
theorem doorEscape_any (q : Nat) (hq : q ≤ 3) (s : ByteArray) (l : List UInt8) (a : Option Addr) (n c : Nat) (w : World) (hs : s.size ≤ 1000000) (hl : l.length ≤ 1000000000) (hB : Own w 5 (.slice a n c) l) :
    Calls Tryz.prog 56 #[.int .i64 (q : Int), .slice a n c, .string s] w (App w (.slice a n c) (l ++ esc (tOf (sOf q)) s.data.toList)) := by
  have h1 := fun w => doorEscaper_any q hq w
  have h2 := fun (w1 : World) (f : Fr [] w w1) (hE : EscAt w1 w.heap.size (tOf (sOf q))) => appendEscaped_any (tOf (sOf q)) w.heap.size s l (.slice a n c) w1 hs hl hE (hB.fr f (by simp)) (fun g hg he => by have := hB.lt g hg; omega)
  have H1 := Lib.hid h1
  have H2 := Lib.hid h2
  clear h1 h2 hB
  go_enter Tryz.func56, Tryz.ntmps56
  go_wp2_with (first
    | (go_at_call 94; refine (H1.out _).mono ?_; rintro e w1 ⟨rfl, he1, hf1⟩; have HF1 := Lib.hid hf1; have HE1 := Lib.hid he1; clear hf1 he1)
    | (go_at_call 73; refine (H2.out _ HF1.out HE1.out).mono ?_; rintro e w2 ⟨d, rfl, hd1, hd2, hd3⟩))
  go_ret
  refine ⟨d, rfl, hd1, (HF1.out.sub (by simp)).trans hd2, ?_⟩
  rcases hd3 with h | ⟨g, h, hg⟩
  · exact .inl h
  · exact .inr ⟨g, h, Nat.le_trans HF1.out.size hg⟩
theorem implEscape_any (q : Nat) (hq : q ≤ 3) (s : ByteArray) (w : World) (hs : s.size ≤ 1000000) :
    Calls Tryz.prog 31 #[.int .i64 (q : Int), .string ⟨#[]⟩, .string s] w fun e w' => e = .returned (.string ⟨(esc (tOf (sOf q)) s.data.toList).toArray⟩) ∧ Fr [] w w' := by
  obtain ⟨c, w1, hcv, ho1, hf1⟩ := conv_str ⟨#[]⟩ (by decide) w
  have h2 := doorEscape_any q hq s [] _ _ _ w1 hs (by decide) ho1
  have H2 := Lib.hid h2
  have HF1 := Lib.hid hf1
  clear h2 ho1 hf1
  go_enter Tryz.func31, Tryz.ntmps31
  go_wp2_with (go_at_call 56; refine H2.out.mono ?_; rintro e w2 ⟨d, rfl, hd1, hd2, hd3⟩; have hcv2 := conv_own hd1; have HD2 := Lib.hid hd2; clear hd1 hd2 hd3)
  go_ret
  exact ⟨by simp, HF1.out.step HD2.out (fun t ht => .inr (by simp [Value.ownBlock] at ht; omega))⟩
theorem recover_idle3 (a b : Addr) (w : World) :
    CallsD Tryz.prog 54 #[.pointer (some a), .pointer (some b)] .returning w fun e u' w' => e = .returned (.tuple #[]) ∧ u' = .returning ∧ w' = w := by
  refine callsD_of_wpS Tryz.func54 rfl fun c₀ cs hu => ?_
  apply wpS_seq
  apply wpS_region
  simp [wpOpsS, go_sem, recoverD, hu, Tryz.ntmps54, Exit.thenS]
  refine wpS_cond (t := false) (by simp [Act.eval, Array.replicate]) ?_
  simp only [Bool.false_eq_true, if_false]
  refine wpS_of_wp (wp_skip ?_)
  cases c₀
  simp_all [bodyPostS, results, Tryz.results54]
set_option maxRecDepth 100000 in
set_option maxHeartbeats 1000000 in
theorem precNanos_any (p : Nat) (hp : p ≤ 3) (w : World) :
    Calls Tryz.prog 30 #[.int .i64 (p : Int)] w fun e w' => e = .returned (.tuple #[.int .i64 (ticks p), .bool true]) ∧ Fr [] w w' := by
  have hmf : ∀ (fn : Fn) (first cap : Array Value) (w : World), (Instr.makeFunc fn first cap).run Tryz.prog w = .ok (.func fn first cap) w := fun _ _ _ _ => rfl
  have h1 := fun w => duration_any p hp w
  have H1 := Lib.hid h1
  have i0 : (0 : Int) ≤ (p : Int) := by omega
  have i1 : (p : Int) ≤ 255 := by omega
  have hcv : ((p : Int) % 256) = (p : Int) := by omega
  clear h1
  go_enter_defers Tryz.func30, Tryz.ntmps30
  go_wp2_with (go_at_call 55; refine (H1.out _).mono ?_; rintro e w1 ⟨rfl, rfl⟩)
  refine leaves_cons (f := 54) (args := #[.pointer (some ⟨w.heap.size, 0, none⟩), .pointer (some ⟨w.heap.size + 1, 0, none⟩)]) (by simp) (by simp [go_sem]) ?_
  refine (recover_idle3 _ _ _).mono ?_
  rintro e u' w'' ⟨rfl, rfl, rfl⟩
  have q1 : ((w.alloc (Obj.cells #[Value.int IntKind.i64 (ticks p)] 2)).alloc (Obj.cells #[Value.bool true] 4)).cell? ⟨w.heap.size, 0, none⟩ = some (.int .i64 (ticks p)) := ((Fr.refl [] _).alloc _).cell (cell_of_row _ w.heap.size 0 _ 2 _ (heap_alloc_new w _)) (by simp)
  have q2 : ((w.alloc (Obj.cells #[Value.int IntKind.i64 (ticks p)] 2)).alloc (Obj.cells #[Value.bool true] 4)).cell? ⟨w.heap.size + 1, 0, none⟩ = some (.bool true) := by
    simp
  simp [Leaves, settle, results, Tryz.results30, go_sem, q1, q2]
  exact ((Fr.refl [] w).alloc _).alloc _
end Go.Proofs.YtaaogjhaokaggaaGreatDoor
