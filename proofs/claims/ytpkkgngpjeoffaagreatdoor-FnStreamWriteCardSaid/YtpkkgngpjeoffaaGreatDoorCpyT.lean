/- PROVED HERE: a part of round r2's proofs (text CpyT): lemmas and walks that later texts use. CONDITIONS: those written ahead of each theorem. -/
import Derived.Test.YtpkkgngpjeoffaaGreatDoorRdT
import Derived.Laws.IdiomCopy
namespace Go.Proofs.YtpkkgngpjeoffaaGreatDoor
open Go.RowKit

/-- 'copy(dst, s)' of a string, as much of it as dst takes: to the head of an owned row. -/
theorem run_copy_o (w : World) (ty : TypeId) (g cap dLen dCap : Nat) (s : ByteArray) (hO : Own w 5 (.slice (some ⟨g, 0, none⟩) 0 cap) []) (hd : dLen ≤ cap) :
    ∃ w', (Builtin.copy_ #[42, 9] ty #[.slice (some ⟨g, 0, none⟩) dLen dCap, .string s]).run Tryz.prog w = .ok (goInt (s.data.toList.take dLen).length) w' ∧ Fr [g] w w' ∧ Own w' 5 (.slice (some ⟨g, 0, none⟩) (s.data.toList.take dLen).length cap) (s.data.toList.take dLen) := by
  have hr : Row w 5 g cap [] := by
    rcases hO with ⟨e, _⟩ | ⟨g', cap', e, hr⟩
    · cases e
    · cases e; exact hr
  obtain ⟨l, hl⟩ : ∃ l, l = s.data.toList.take dLen := ⟨_, rfl⟩
  have hll : l.length ≤ dLen := by rw [hl, List.length_take]; omega
  have hst := run_storeCells_cells (P := Tryz.prog) g 0 (bvs l) 0 w (fun j hj => by rw [bvs_length] at hj; simpa using (hr.free (j := j) (by omega)).1) (fun j hj => by rw [bvs_length] at hj; simpa using (hr.free (j := j) (by omega)).2) (bvs_one l)
  obtain ⟨cur, fr, h1, h2, h3, h4, h5, h6⟩ := hr
  obtain ⟨cur', k1, k2, k3⟩ := setCells_row g 5 (bvs l) 0 cur w fr h1 (by rw [bvs_length]; omega)
  have hmin : Nat.min s.size dLen = l.length := by rw [hl, List.length_take, ← Lib.size_eq, Nat.min_comm]
  have htk : List.take l.length (List.map (fun b : UInt8 => Value.int IntKind.u8 (b.toNat : Int)) s.data.toList) = bvs l := by
    have e : bvs l = List.map (fun b : UInt8 => Value.int IntKind.u8 (b.toNat : Int)) l := rfl
    rw [e, ← List.map_take]
    congr 1
    rw [hl, List.length_take, List.take_eq_take_iff]
    omega
  rw [← hl]
  refine ⟨w.setCells g 0 (bvs l), ?_, setCells_fr g w 0 (bvs l), .inr ⟨g, cap, rfl, cur', fr, k1, fun j hj => h2 j (by omega), by omega, by omega, h5, ?_⟩⟩
  · obtain ⟨i5, hi, hz0, hz1, hz2⟩ := info_parts Tryz.info5
    simp only [Nat.zero_add] at hst
    clear hl
    simp [Builtin.copy_, run_underlying u42, Builtin.lenOf, Builtin.firstCells, sizeOf, typeInfo, hi, hmin]
    rw [htk, hst]
    simp [Result.andThen]
  · refine take_bvs (n := l.length) (fun i hi => ?_) rfl (by omega)
    rw [k3 i, if_neg (by omega), if_pos (by rw [bvs_length]; omega)]
    simp
/-- The same at a step of a region that draws. -/
theorem stepCopyS (w : World) {ops : Array Oper} {o : Oper} {a : Act} {K : Act → World → Prop} {Q : Exit → Act → World → Prop} {E : Prop}
    (hg : o.guard = none) (d x : Operand) (hop : o.op = Op.call { callee := Callee.builtin Builtin.copy, args := #[d, x], argTypes := #[42, 9] })
    (g cap dLen dCap : Nat) (s : ByteArray) (hd : a.eval d = .slice (some ⟨g, 0, none⟩) dLen dCap) (hx : a.eval x = .string s) (hO : Own w 5 (.slice (some ⟨g, 0, none⟩) 0 cap) []) (hle : dLen ≤ cap)
    (hK : ∀ w', Fr [g] w w' → Own w' 5 (.slice (some ⟨g, 0, none⟩) (s.data.toList.take dLen).length cap) (s.data.toList.take dLen) → K (a.put o.dst (goInt (s.data.toList.take dLen).length)) w') :
    if Region.wanted o (yielded ops a.tmps) = true then Oper.wp Tryz.prog o a w K Q else E := by
  have hw : Region.wanted o (yielded ops a.tmps) = true := by simp [Region.wanted, hg]
  rw [if_pos hw]
  obtain ⟨w', hrun, h1, h2⟩ := run_copy_o w o.type g cap dLen dCap s hO hle
  have hk := hK w' h1 h2
  clear hK
  generalize goInt (s.data.toList.take dLen).length = v at hrun hk
  unfold Oper.wp
  simp [execOp, hop, resolve, invoke, builtin, hd, hx, hrun, Result.andThen]
  exact hk
end Go.Proofs.YtpkkgngpjeoffaaGreatDoor
