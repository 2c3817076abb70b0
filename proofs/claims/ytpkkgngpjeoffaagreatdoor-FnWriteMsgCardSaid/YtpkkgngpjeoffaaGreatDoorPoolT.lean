/- PROVED HERE: a part of round r2's proofs (text PoolT): lemmas and walks that later texts use. CONDITIONS: those written ahead of each theorem. -/
import Derived.Test.YtpkkgngpjeoffaaGreatDoorLawC
import Derived.Test.YtpkkgngpjeoffaaGreatDoorBufT
namespace Go.Proofs.YtpkkgngpjeoffaaGreatDoor
open Go.RowKit

theorem Tryz.info87 : (Tryz.prog.info? 87).map (fun i => (i.zero, i.size, decide (i.bytes ≤ 1000))) = some (some (.pointer none), 1, true) := by kernel_rfl
/-- The pool of scratch slices (block bp; its slice pv): none, or one (its pointer's block q, the slice v there). -/
def PoolS (w : World) (bp : Nat) (pv : Value) (o : Option (Nat × Value)) : Prop :=
  (∃ u : Int, w.heap[bp]? = some (.cells #[.int .i64 u, .int .i64 10000000, pv] 174 (0, 0))) ∧
  match o with
  | none => OwnC w 87 1 pv 0 []
  | some (q, v) => OwnC w 87 1 pv 1 [.pointer (some ⟨q, 0, none⟩)] ∧ w.heap[q]? = some (.cells #[v] 42 (0, 0)) ∧ Own w 5 v []
/-- What get hands back: a pointer to an empty slice. -/
def GetQ (w : World) (bp : Nat) (pv : Value) (o : Option (Nat × Value)) (e : Ending) (w' : World) : Prop :=
  Fr [bp] w w' ∧ ∃ q v pv', e = .returned (.pointer (some ⟨q, 0, none⟩)) ∧ w'.heap[q]? = some (.cells #[v] 42 (0, 0)) ∧ Own w' 5 v [] ∧ PoolS w' bp pv' none ∧ (pv'.ownBlock = pv.ownBlock) ∧
    (match o with | none => w.heap.size ≤ q ∧ ∀ g, v.ownBlock = some g → w.heap.size ≤ g | some (q0, v0) => q = q0 ∧ v = v0)
set_option maxRecDepth 100000 in
set_option maxHeartbeats 1000000 in
theorem get_none (bp : Nat) (pv : Value) (w : World) (h : PoolS w bp pv none) :
    Calls Tryz.prog 39 #[.pointer (some ⟨bp, 0, none⟩)] w (GetQ w bp pv none) := by
  obtain ⟨⟨u, hb⟩, hO⟩ := h
  obtain ⟨a, c, rfl⟩ := hO.shape
  have c2 := cell_of_row w bp 2 _ 174 _ hb
  have HB := Lib.hid hb
  have HO := Lib.hid hO
  clear hb hO
  go_enter Tryz.func39, Tryz.ntmps39
  go_wp2_with (first
    | (at_make; refine wpMake _ rfl (.const (.int .i64 0)) (.const (.int .i64 32)) rfl _ _ 0 32 rfl rfl rfl rfl (by decide) (by decide) ?_; intro w1 hr1 hf1; have HR1 := Lib.hid hr1; have HF1 := Lib.hid hf1; clear hr1 hf1))
  go_ret
  have hfa : Fr [] w (w1.alloc (.cells #[.slice (some ⟨w.heap.size, 0, none⟩) 0 32] 42)) := HF1.out.alloc _
  refine ⟨hfa.sub (by simp), w1.heap.size, .slice (some ⟨w.heap.size, 0, none⟩) 0 32, .slice a 0 c, rfl, heap_alloc_new _ _, ?_, ⟨⟨u, hfa.blk HB.out List.not_mem_nil⟩, HO.out.fr hfa (fun _ _ => List.not_mem_nil)⟩, rfl, HF1.out.size, fun g hg => by simp [Value.ownBlock] at hg; omega⟩
  exact .inr ⟨_, _, rfl, _, _, ((Fr.refl [] w1).alloc _).blk HR1.out List.not_mem_nil, fun j _ h => by simp at h, by rw [zbytes_size]; exact Nat.le_refl _, by simp, by decide, by simp [bvs]⟩
set_option maxRecDepth 100000 in
set_option maxHeartbeats 1000000 in
theorem get_some (bp q : Nat) (v pv : Value) (w : World) (h : PoolS w bp pv (some (q, v))) (hqb : q ≠ bp) (hpb : pv.ownBlock ≠ some bp) (hvb : v.ownBlock ≠ some bp) :
    Calls Tryz.prog 39 #[.pointer (some ⟨bp, 0, none⟩)] w (GetQ w bp pv (some (q, v))) := by
  obtain ⟨⟨u, hb⟩, hO, hq, hv⟩ := h
  obtain ⟨g, c, rfl, hc, hlt, hcell⟩ := hO.row (by decide)
  have c2 := cell_of_row w bp 2 _ 174 _ hb
  have f2 := frozen_of_row w bp 2 _ 174 hb
  have cg := hcell 0 _ rfl
  have HB := Lib.hid hb
  have HO := Lib.hid hO
  have HQ := Lib.hid hq
  have HV := Lib.hid hv
  have HPB := Lib.hid hpb
  have HVB := Lib.hid hvb
  have i1 : (1 : Int) ≤ (c : Int) := by omega
  have mixed : Tryz.prog.follows .mixedOrders = true := by kernel_rfl
  clear hb hO hq hv hcell hpb hvb
  go_enter Tryz.func39, Tryz.ntmps39
  go_upto_region 4 with fail
  go_quiet (fail)
  obtain ⟨w1, hw1⟩ : ∃ w1, w1 = w.drewN nq := ⟨_, rfl⟩
  rw [← hw1]
  have hf1 : Fr [] w w1 := by rw [hw1]; exact (Fr.refl [] w).drewN nq
  have hb1 := hf1.blk HB.out List.not_mem_nil
  have k2 := cell_of_row w1 bp 2 _ 174 _ hb1
  have l2 := frozen_of_row w1 bp 2 _ 174 hb1
  have HF1 := Lib.hid hf1
  have HB1 := Lib.hid hb1
  clear hw1 hf1 hb1 c2 f2 cg
  go_upto_region 5 with fail
  go_region
  all_goals
    go_wp2_with fail
    go_ret
    have hfr : Fr [bp] w (w1.setCell ⟨bp, 2, none⟩ (.slice (some ⟨g, 0, none⟩) 0 c)).drew := ((HF1.out.sub (by simp)).setCell (.inl (by simp)) _).drew
    have hgb : g ≠ bp := fun e => HPB.out (by rw [e]; rfl)
    refine ⟨hfr, q, v, .slice (some ⟨g, 0, none⟩) 0 c, rfl, hfr.blk HQ.out (by simp; exact hqb), HV.out.fr hfr (fun k hk => by simp; intro e; exact HVB.out (by rw [hk, e])), ⟨⟨u, ?_⟩, ?_⟩, rfl, rfl, rfl⟩
    · exact heap_setCell_same w1 bp 2 _ 174 _ HB1.out
    · refine OwnC.fr ?_ hfr (fun k hk => by simp [Value.ownBlock] at hk; simp; omega)
      rcases HO.out.2.2 with ⟨e, _⟩ | ⟨g', c', e, cur, fr, h4, h5, h6, h7, h8⟩
      · cases e
      · cases e
        exact ⟨by simp, by simp, .inr ⟨_, _, rfl, cur, fr, h4, h5, h6, Nat.zero_le _, by simp⟩⟩
end Go.Proofs.YtpkkgngpjeoffaaGreatDoor
