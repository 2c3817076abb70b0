import Derived.Test.YtaaogjhaokaggaaGreatDoorValB
import Derived.ProofKit
import Derived.Carry
import Derived.ChangeSame
namespace Go.Proofs.YtaaogjhaokaggaaGreatDoor
open Go.ChangeShapes Go.WideShapes Go.RowKit

theorem laidOutT : laidOutB Tryz.prog = true := by kernel_rfl
section
variable {H : Type} {enc : TypeId × Value → H} {w : World} {base : Nat} {spare : Nat → Bool} {held : Bool}
theorem trod_float {P : Program} {t : TypeId} {k : FloatKind} {fuel : Nat} {cs : List Value} {x : DataW H × List MemPlace} (ht : P.underlying t = some (.float k)) (h : DataW.trod enc P w base spare held fuel t cs = some x) : ∃ n, cs = [.float k n] ∧ x = (.lit (.float k n), []) ∧ (Lit.float k n).wf = true := by
  cases fuel with
  | zero => simp [DataW.trod] at h
  | succ n =>
    unfold DataW.trod at h
    rw [ht] at h
    split at h <;> simp_all
set_option maxRecDepth 100000 in
/-- A value's six cells. -/
theorem open_value {fuel : Nat} {cs : List Value} {x : DataW H × List MemPlace} (h : DataW.trod enc Tryz.prog w base spare held fuel 25 cs = some x) :
    ∃ d : VD, cs = d.cells.toList ∧ (Lit.int .i64 d.kind).wf = true ∧ d.s.size ≤ maxLen ∧ (Lit.int .i64 d.n).wf = true ∧ (Lit.int .u64 (d.u : Int)).wf = true ∧ (Lit.float .f64 d.f).wf = true ∧ x.2 = [] := by
  obtain ⟨xs, n, rfl, rfl, hl, hx, hf⟩ := DataW.trod_struct Tryz.underlying25 h
  have hc6 : Tryz.prog.cellsOf 25 = 6 := by kernel_rfl
  rw [hc6] at hl
  have hx6 : xs.length = 6 := hx
  match cs, hl with
  | [c0, c1, c2, c3, c4, c5], _ =>
    have hg : ∀ i, i < 6 → ∃ y, xs[i]? = some y := fun i hi => ⟨xs[i], List.getElem?_eq_getElem (by omega)⟩
    have k3 : Tryz.prog.cellsOf 3 = 1 := by kernel_rfl
    have k9 : Tryz.prog.cellsOf 9 = 1 := by kernel_rfl
    have k2 : Tryz.prog.cellsOf 2 = 1 := by kernel_rfl
    have k22 : Tryz.prog.cellsOf 22 = 1 := by kernel_rfl
    have k23 : Tryz.prog.cellsOf 23 = 1 := by kernel_rfl
    have k4 : Tryz.prog.cellsOf 4 = 1 := by kernel_rfl
    obtain ⟨y0, e0⟩ := hg 0 (by decide)
    obtain ⟨y1, e1⟩ := hg 1 (by decide)
    obtain ⟨y2, e2⟩ := hg 2 (by decide)
    obtain ⟨y3, e3⟩ := hg 3 (by decide)
    obtain ⟨y4, e4⟩ := hg 4 (by decide)
    obtain ⟨y5, e5⟩ := hg 5 (by decide)
    have f0 : DataW.trod enc Tryz.prog w base spare held n 3 (([c0, c1, c2, c3, c4, c5].drop 0).take (Tryz.prog.cellsOf 3)) = xs[0]? := hf 0 { name := "Kind", type := 3, offset := 0, embedded := false, tag := "", pkgPath := "", byteOffset := 0 } rfl
    rw [k3, e0] at f0
    have f0 : DataW.trod enc Tryz.prog w base spare held n 3 [c0] = some y0 := f0
    have f1 : DataW.trod enc Tryz.prog w base spare held n 9 (([c0, c1, c2, c3, c4, c5].drop 1).take (Tryz.prog.cellsOf 9)) = xs[1]? := hf 1 { name := "S", type := 9, offset := 1, embedded := false, tag := "", pkgPath := "", byteOffset := 8 } rfl
    rw [k9, e1] at f1
    have f1 : DataW.trod enc Tryz.prog w base spare held n 9 [c1] = some y1 := f1
    have f2 : DataW.trod enc Tryz.prog w base spare held n 2 (([c0, c1, c2, c3, c4, c5].drop 2).take (Tryz.prog.cellsOf 2)) = xs[2]? := hf 2 { name := "N", type := 2, offset := 2, embedded := false, tag := "", pkgPath := "", byteOffset := 24 } rfl
    rw [k2, e2] at f2
    have f2 : DataW.trod enc Tryz.prog w base spare held n 2 [c2] = some y2 := f2
    have f3 : DataW.trod enc Tryz.prog w base spare held n 22 (([c0, c1, c2, c3, c4, c5].drop 3).take (Tryz.prog.cellsOf 22)) = xs[3]? := hf 3 { name := "U", type := 22, offset := 3, embedded := false, tag := "", pkgPath := "", byteOffset := 32 } rfl
    rw [k22, e3] at f3
    have f3 : DataW.trod enc Tryz.prog w base spare held n 22 [c3] = some y3 := f3
    have f4 : DataW.trod enc Tryz.prog w base spare held n 23 (([c0, c1, c2, c3, c4, c5].drop 4).take (Tryz.prog.cellsOf 23)) = xs[4]? := hf 4 { name := "F", type := 23, offset := 4, embedded := false, tag := "", pkgPath := "", byteOffset := 40 } rfl
    rw [k23, e4] at f4
    have f4 : DataW.trod enc Tryz.prog w base spare held n 23 [c4] = some y4 := f4
    have f5 : DataW.trod enc Tryz.prog w base spare held n 4 (([c0, c1, c2, c3, c4, c5].drop 5).take (Tryz.prog.cellsOf 4)) = xs[5]? := hf 5 { name := "B", type := 4, offset := 5, embedded := false, tag := "", pkgPath := "", byteOffset := 48 } rfl
    rw [k4, e5] at f5
    have f5 : DataW.trod enc Tryz.prog w base spare held n 4 [c5] = some y5 := f5
    obtain ⟨a0, h0, g0, w0⟩ := DataW.trod_int Tryz.underlying3 f0
    obtain ⟨a1, h1, g1, w1⟩ := DataW.trod_string Tryz.underlying9 f1
    obtain ⟨a2, h2, g2, w2⟩ := DataW.trod_int Tryz.underlying2 f2
    obtain ⟨a3, h3, g3, w3⟩ := DataW.trod_int Tryz.underlying22 f3
    obtain ⟨a4, h4, g4, w4⟩ := trod_float Tryz.underlying23 f4
    obtain ⟨a5, h5, g5⟩ := DataW.trod_bool Tryz.underlying4 f5
    simp only [List.cons.injEq, and_true] at h0 h1 h2 h3 h4 h5
    subst h0 h1 h2 h3 h4 h5
    have hu0 : 0 ≤ a3 := by
      simp [Lit.wf, IntKind.min, IntKind.max, IntKind.signed, IntKind.bits] at w3
      omega
    obtain ⟨u, rfl⟩ := Int.eq_ofNat_of_zero_le hu0
    have hz : xs.flatMap (·.2) = [] := by
      rw [List.flatMap_eq_nil_iff]
      intro y hy
      obtain ⟨i, hi⟩ := List.mem_iff_getElem?.1 hy
      have hi6 : i < 6 := by have := (List.getElem?_eq_some_iff.1 hi).1; omega
      match i, hi6 with
      | 0, _ => rw [e0] at hi; cases hi; rw [g0]
      | 1, _ => rw [e1] at hi; cases hi; rw [g1]
      | 2, _ => rw [e2] at hi; cases hi; rw [g2]
      | 3, _ => rw [e3] at hi; cases hi; rw [g3]
      | 4, _ => rw [e4] at hi; cases hi; rw [g4]
      | 5, _ => rw [e5] at hi; cases hi; rw [g5]
    exact ⟨⟨a0, a1, a2, u, a4, a5⟩, rfl, w0, w1, w2, w3, w4, hz⟩
end
end Go.Proofs.YtaaogjhaokaggaaGreatDoor
