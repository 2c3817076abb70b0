import Derived.Test.YtaaogjhaokaggaaGreatDoorValB
import Derived.Test.YtaaogjhaokaggaaGreatDoorSpecP
import Derived.ProofKit
import Derived.Carry
import Derived.ChangeSame
import Derived.Test.YtaaogjhaokaggaaGreatDoorSpX
namespace Go.Proofs.YtaaogjhaokaggaaGreatDoor
open Go.ChangeShapes Go.WideShapes Go.RowKit

theorem laidOutT : laidOutB Tryz.prog = true := by kernel_rfl
section
variable {H : Type} {enc : TypeId × Value → H} {w : World} {base : Nat} {spare : Nat → Bool} {held : Bool}
theorem trod_float {P : Program} {t : TypeId} {k : FloatKind} {fuel : Nat} {cs : List Value} {x : DataW H × List MemPlace} (ht : P.underlying t = some (.float k)) (h : DataW.trod enc P w base spare held fuel t cs = some x) : ∃ n, cs = [.float k n] ∧ x = (.lit (.float k n), []) ∧ (Lit.float k n).wf = true := by
  cases fuel with
  | zero => simp [DataW.trod] at h
  | succ n =>
    unfold DataW.trod at h
    rw [ht] at h
    split at h <;> simp_all
set_option maxRecDepth 100000 in
/-- A value's six cells. -/
theorem open_value {fuel : Nat} {cs : List Value} {x : DataW H × List MemPlace} (h : DataW.trod enc Tryz.prog w base spare held fuel 25 cs = some x) :
    ∃ d : VD, cs = d.cells.toList ∧ (Lit.int .i64 d.kind).wf = true ∧ d.s.size ≤ maxLen ∧ (Lit.int .i64 d.n).wf = true ∧ (Lit.int .u64 (d.u : Int)).wf = true ∧ (Lit.float .f64 d.f).wf = true ∧ x.2 = [] := by
  obtain ⟨xs, n, rfl, rfl, hl, hx, hf⟩ := DataW.trod_struct Tryz.underlying25 h
  have hc6 : Tryz.prog.cellsOf 25 = 6 := by kernel_rfl
  rw [hc6] at hl
  have hx6 : xs.length = 6 := hx
  match cs, hl with
  | [c0, c1, c2, c3, c4, c5], _ =>
    have hg : ∀ i, i < 6 → ∃ y, xs[i]? = some y := fun i hi => ⟨xs[i], List.getElem?_eq_getElem (by omega)⟩
    have k3 : Tryz.prog.cellsOf 3 = 1 := by kernel_rfl
    have k9 : Tryz.prog.cellsOf 9 = 1 := by kernel_rfl
    have k2 : Tryz.prog.cellsOf 2 = 1 := by kernel_rfl
    have k22 : Tryz.prog.cellsOf 22 = 1 := by kernel_rfl
    have k23 : Tryz.prog.cellsOf 23 = 1 := by kernel_rfl
    have k4 : Tryz.prog.cellsOf 4 = 1 := by kernel_rfl
    obtain ⟨y0, e0⟩ := hg 0 (by decide)
    obtain ⟨y1, e1⟩ := hg 1 (by decide)
    obtain ⟨y2, e2⟩ := hg 2 (by decide)
    obtain ⟨y3, e3⟩ := hg 3 (by decide)
    obtain ⟨y4, e4⟩ := hg 4 (by decide)
    obtain ⟨y5, e5⟩ := hg 5 (by decide)
    have f0 : DataW.trod enc Tryz.prog w base spare held n 3 (([c0, c1, c2, c3, c4, c5].drop 0).take (Tryz.prog.cellsOf 3)) = xs[0]? := hf 0 { name := "Kind", type := 3, offset := 0, embedded := false, tag := "", pkgPath := "", byteOffset := 0 } rfl
    rw [k3, e0] at f0
    have f0 : DataW.trod enc Tryz.prog w base spare held n 3 [c0] = some y0 := f0
    have f1 : DataW.trod enc Tryz.prog w base spare held n 9 (([c0, c1, c2, c3, c4, c5].drop 1).take (Tryz.prog.cellsOf 9)) = xs[1]? := hf 1 { name := "S", type := 9, offset := 1, embedded := false, tag := "", pkgPath := "", byteOffset := 8 } rfl
    rw [k9, e1] at f1
    have f1 : DataW.trod enc Tryz.prog w base spare held n 9 [c1] = some y1 := f1
    have f2 : DataW.trod enc Tryz.prog w base spare held n 2 (([c0, c1, c2, c3, c4, c5].drop 2).take (Tryz.prog.cellsOf 2)) = xs[2]? := hf 2 { name := "N", type := 2, offset := 2, embedded := false, tag := "", pkgPath := "", byteOffset := 24 } rfl
    rw [k2, e2] at f2
    have f2 : DataW.trod enc Tryz.prog w base spare held n 2 [c2] = some y2 := f2
    have f3 : DataW.trod enc Tryz.prog w base spare held n 22 (([c0, c1, c2, c3, c4, c5].drop 3).take (Tryz.prog.cellsOf 22)) = xs[3]? := hf 3 { name := "U", type := 22, offset := 3, embedded := false, tag := "", pkgPath := "", byteOffset := 32 } rfl
    rw [k22, e3] at f3
    have f3 : DataW.trod enc Tryz.prog w base spare held n 22 [c3] = some y3 := f3
    have f4 : DataW.trod enc Tryz.prog w base spare held n 23 (([c0, c1, c2, c3, c4, c5].drop 4).take (Tryz.prog.cellsOf 23)) = xs[4]? := hf 4 { name := "F", type := 23, offset := 4, embedded := false, tag := "", pkgPath := "", byteOffset := 40 } rfl
    rw [k23, e4] at f4
    have f4 : DataW.trod enc Tryz.prog w base spare held n 23 [c4] = some y4 := f4
    have f5 : DataW.trod enc Tryz.prog w base spare held n 4 (([c0, c1, c2, c3, c4, c5].drop 5).take (Tryz.prog.cellsOf 4)) = xs[5]? := hf 5 { name := "B", type := 4, offset := 5, embedded := false, tag := "", pkgPath := "", byteOffset := 48 } rfl
    rw [k4, e5] at f5
    have f5 : DataW.trod enc Tryz.prog w base spare held n 4 [c5] = some y5 := f5
    obtain ⟨a0, h0, g0, w0⟩ := DataW.trod_int Tryz.underlying3 f0
    obtain ⟨a1, h1, g1, w1⟩ := DataW.trod_string Tryz.underlying9 f1
    obtain ⟨a2, h2, g2, w2⟩ := DataW.trod_int Tryz.underlying2 f2
    obtain ⟨a3, h3, g3, w3⟩ := DataW.trod_int Tryz.underlying22 f3
    obtain ⟨a4, h4, g4, w4⟩ := trod_float Tryz.underlying23 f4
    obtain ⟨a5, h5, g5⟩ := DataW.trod_bool Tryz.underlying4 f5
    simp only [List.cons.injEq, and_true] at h0 h1 h2 h3 h4 h5
    subst h0 h1 h2 h3 h4 h5
    have hu0 : 0 ≤ a3 := by
      simp [Lit.wf, IntKind.min, IntKind.max, IntKind.signed, IntKind.bits] at w3
      omega
    obtain ⟨u, rfl⟩ := Int.eq_ofNat_of_zero_le hu0
    have hz : xs.flatMap (·.2) = [] := by
      rw [List.flatMap_eq_nil_iff]
      intro y hy
      obtain ⟨i, hi⟩ := List.mem_iff_getElem?.1 hy
      have hi6 : i < 6 := by have := (List.getElem?_eq_some_iff.1 hi).1; omega
      match i, hi6 with
      | 0, _ => rw [e0] at hi; cases hi; rw [g0]
      | 1, _ => rw [e1] at hi; cases hi; rw [g1]
      | 2, _ => rw [e2] at hi; cases hi; rw [g2]
      | 3, _ => rw [e3] at hi; cases hi; rw [g3]
      | 4, _ => rw [e4] at hi; cases hi; rw [g4]
      | 5, _ => rw [e5] at hi; cases hi; rw [g5]
    exact ⟨⟨a0, a1, a2, u, a4, a5⟩, rfl, w0, w1, w2, w3, w4, hz⟩
end
end Go.Proofs.YtaaogjhaokaggaaGreatDoor
namespace Go.Proofs.YtaaogjhaokaggaaGreatDoor
open Go.ChangeShapes Go.WideShapes Go.RowKit

section
variable {H : Type} {enc : TypeId × Value → H} {w : World} {base : Nat} {spare : Nat → Bool} {held : Bool}
/-- A slice of whatever is read. -/
theorem open_rows {P : Program} {t e : TypeId} (sz : Nat) (ht : P.underlying t = some (.slice e)) (hsz : P.cellsOf e = sz) (h0 : 0 < sz) {α : Type} (R : α → List Value → Prop)
    (hone : ∀ fuel cs y, DataW.trod enc P w base spare held fuel e cs = some y → ∃ d, R d cs) {fuel : Nat} {cs : List Value} {x : DataW H × List MemPlace} (h : DataW.trod enc P w base spare held fuel t cs = some x) :
    ∃ (l : List α) (a : Option Addr) (c : Nat), cs = [.slice a l.length c] ∧ l.length ≤ maxLen ∧ (l = [] ∨ ∃ g off, a = some ⟨g, off, none⟩ ∧ ∀ i d, l[i]? = some d → ∃ ds, R d ds ∧ ∀ j u, ds[j]? = some u → w.cell? ⟨g, off + i * sz + j, none⟩ = some u) := by
  rcases DataW.trod_slice ht h with ⟨rfl, _⟩ | ⟨a, len, cap, elems, rest, n, rfl, rfl, _, hb, hlc, hcm, hel, hat, _, _⟩
  · exact ⟨[], none, 0, rfl, Nat.zero_le _, .inl rfl⟩
  rw [hsz] at hat
  have hex : ∀ i, i < len → ∃ d ds, R d ds ∧ w.cells? base (a.add (i * sz)) sz = some ds := fun i hi => by
    have h1 := hat i hi
    have h2 : elems[i]? = some elems[i] := List.getElem?_eq_getElem (by omega)
    rw [h2] at h1
    obtain ⟨ds, h3, h4⟩ := Option.bind_eq_some_iff.1 h1
    obtain ⟨d, h5⟩ := hone _ _ _ h4
    exact ⟨d, ds, h5, h3⟩
  have hl : ∀ m, m ≤ len → ∃ l : List α, l.length = m ∧ ∀ i d, l[i]? = some d → ∃ ds, R d ds ∧ w.cells? base (a.add (i * sz)) sz = some ds := by
    intro m
    induction m with
    | zero => exact fun _ => ⟨[], rfl, fun i d hd => by simp at hd⟩
    | succ m ih =>
      intro hm
      obtain ⟨l, h1, h2⟩ := ih (by omega)
      obtain ⟨d, ds, h3, h4⟩ := hex m (by omega)
      refine ⟨l ++ [d], by simp [h1], fun i y hy => ?_⟩
      by_cases hi : i < l.length
      · rw [List.getElem?_append_left hi] at hy
        exact h2 i y hy
      · rw [List.getElem?_append_right (by omega)] at hy
        have hi0 : i - l.length = 0 := by
          have := (List.getElem?_eq_some_iff.1 hy).1
          simp at this; omega
        rw [hi0] at hy
        simp at hy
        subst hy
        have : i = m := by omega
        subst this
        exact ⟨ds, h3, h4⟩
  obtain ⟨l, h1, h2⟩ := hl len (Nat.le_refl _)
  refine ⟨l, some a, cap, by rw [h1], by omega, ?_⟩
  by_cases hn : l = []
  · exact .inl hn
  have hlen : 0 < l.length := List.length_pos_iff.2 hn
  obtain ⟨ds0, _, hc0⟩ := h2 0 l[0] (List.getElem?_eq_getElem hlen)
  have hsp : a.spot = none := by
    obtain ⟨_, k2, k3⟩ := World.cells?_some hc0
    have k4 := k3 0 h0
    have : (a.add (0 * sz)).add 0 = a := by simp [Addr.add]
    rw [this, List.getElem?_eq_getElem (show 0 < ds0.length by omega)] at k4
    unfold World.cell? at k4
    split at k4
    · split at k4
      · cases k4
      · rename_i hh; simpa using hh
    · cases k4
  obtain ⟨g, off, sp⟩ := a
  simp only at hsp
  subst hsp
  refine .inr ⟨g, off, rfl, fun i d hd => ?_⟩
  obtain ⟨ds, k1, k2⟩ := h2 i d hd
  refine ⟨ds, k1, fun j u hu => ?_⟩
  obtain ⟨_, k3, k4⟩ := World.cells?_some k2
  have hj : j < sz := by have := (List.getElem?_eq_some_iff.1 hu).1; omega
  have k5 := k4 j hj
  have e1 : ((⟨g, off, none⟩ : Addr).add (i * sz)).add j = ⟨g, off + i * sz + j, none⟩ := by
    unfold Addr.add
    split <;> split <;> simp_all
  rw [e1, hu] at k5
  exact k5

end
def VdOk (d : VD) : Prop := -9223372036854775808 ≤ d.n ∧ d.n ≤ 9223372036854775807 ∧ d.u < 18446744073709551616 ∧ d.f < 18446744073709551616
/-- A call's bounds, out of its types. -/
structure PutOk (p : PutD) : Prop where
  o0 : -9223372036854775808 ≤ p.op
  o1 : p.op ≤ 9223372036854775807
  key : p.key.size ≤ 9223372036854775807
  value : p.value.size ≤ 9223372036854775807
  s : p.v.s.size ≤ 9223372036854775807
  k0 : -9223372036854775808 ≤ p.v.kind
  k1 : p.v.kind ≤ 9223372036854775807
  vd : VdOk p.v
  n0 : -9223372036854775808 ≤ p.n
  n1 : p.n ≤ 9223372036854775807
  m0 : -9223372036854775808 ≤ p.more
  m1 : p.more ≤ 9223372036854775807
section
variable {H : Type} {enc : TypeId × Value → H} {w : World} {base : Nat} {spare : Nat → Bool} {held : Bool}
set_option maxRecDepth 100000 in
set_option maxHeartbeats 4000000 in
/-- A call's twelve cells. -/
theorem open_put {fuel : Nat} {cs : List Value} {x : DataW H × List MemPlace} (h : DataW.trod enc Tryz.prog w base spare held fuel 38 cs = some x) :
    ∃ p : PutD, cs = p.cells.toList ∧ PutOk p := by
  obtain ⟨xs, n, rfl, rfl, hl, hx, hf⟩ := DataW.trod_struct Tryz.underlying38 h
  have hc12 : Tryz.prog.cellsOf 38 = 12 := by kernel_rfl
  rw [hc12] at hl
  have hx7 : xs.length = 7 := hx
  match cs, hl with
  | [c0, c1, c2, c3, c4, c5, c6, c7, c8, c9, c10, c11], _ =>
    have hg : ∀ i, i < 7 → ∃ y, xs[i]? = some y := fun i hi => ⟨xs[i], List.getElem?_eq_getElem (by omega)⟩
    have k3 : Tryz.prog.cellsOf 3 = 1 := by kernel_rfl
    have k9 : Tryz.prog.cellsOf 9 = 1 := by kernel_rfl
    have k25 : Tryz.prog.cellsOf 25 = 6 := by kernel_rfl
    have k2 : Tryz.prog.cellsOf 2 = 1 := by kernel_rfl
    have k4 : Tryz.prog.cellsOf 4 = 1 := by kernel_rfl
    obtain ⟨y0, e0⟩ := hg 0 (by decide)
    obtain ⟨y1, e1⟩ := hg 1 (by decide)
    obtain ⟨y2, e2⟩ := hg 2 (by decide)
    obtain ⟨y3, e3⟩ := hg 3 (by decide)
    obtain ⟨y4, e4⟩ := hg 4 (by decide)
    obtain ⟨y5, e5⟩ := hg 5 (by decide)
    obtain ⟨y6, e6⟩ := hg 6 (by decide)
    have f0 : DataW.trod enc Tryz.prog w base spare held n 3 (([c0, c1, c2, c3, c4, c5, c6, c7, c8, c9, c10, c11].drop 0).take (Tryz.prog.cellsOf 3)) = xs[0]? := hf 0 { name := "Op", type := 3, offset := 0, embedded := false, tag := "", pkgPath := "", byteOffset := 0 } rfl
    rw [k3, e0] at f0
    have f0 : DataW.trod enc Tryz.prog w base spare held n 3 [c0] = some y0 := f0
    have f1 : DataW.trod enc Tryz.prog w base spare held n 9 (([c0, c1, c2, c3, c4, c5, c6, c7, c8, c9, c10, c11].drop 1).take (Tryz.prog.cellsOf 9)) = xs[1]? := hf 1 { name := "Key", type := 9, offset := 1, embedded := false, tag := "", pkgPath := "", byteOffset := 8 } rfl
    rw [k9, e1] at f1
    have f1 : DataW.trod enc Tryz.prog w base spare held n 9 [c1] = some y1 := f1
    have f2 : DataW.trod enc Tryz.prog w base spare held n 9 (([c0, c1, c2, c3, c4, c5, c6, c7, c8, c9, c10, c11].drop 2).take (Tryz.prog.cellsOf 9)) = xs[2]? := hf 2 { name := "Value", type := 9, offset := 2, embedded := false, tag := "", pkgPath := "", byteOffset := 24 } rfl
    rw [k9, e2] at f2
    have f2 : DataW.trod enc Tryz.prog w base spare held n 9 [c2] = some y2 := f2
    have f3 : DataW.trod enc Tryz.prog w base spare held n 25 (([c0, c1, c2, c3, c4, c5, c6, c7, c8, c9, c10, c11].drop 3).take (Tryz.prog.cellsOf 25)) = xs[3]? := hf 3 { name := "V", type := 25, offset := 3, embedded := false, tag := "", pkgPath := "", byteOffset := 40 } rfl
    rw [k25, e3] at f3
    have f3 : DataW.trod enc Tryz.prog w base spare held n 25 [c3, c4, c5, c6, c7, c8] = some y3 := f3
    have f4 : DataW.trod enc Tryz.prog w base spare held n 2 (([c0, c1, c2, c3, c4, c5, c6, c7, c8, c9, c10, c11].drop 9).take (Tryz.prog.cellsOf 2)) = xs[4]? := hf 4 { name := "N", type := 2, offset := 9, embedded := false, tag := "", pkgPath := "", byteOffset := 96 } rfl
    rw [k2, e4] at f4
    have f4 : DataW.trod enc Tryz.prog w base spare held n 2 [c9] = some y4 := f4
    have f5 : DataW.trod enc Tryz.prog w base spare held n 2 (([c0, c1, c2, c3, c4, c5, c6, c7, c8, c9, c10, c11].drop 10).take (Tryz.prog.cellsOf 2)) = xs[5]? := hf 5 { name := "More", type := 2, offset := 10, embedded := false, tag := "", pkgPath := "", byteOffset := 104 } rfl
    rw [k2, e5] at f5
    have f5 : DataW.trod enc Tryz.prog w base spare held n 2 [c10] = some y5 := f5
    have f6 : DataW.trod enc Tryz.prog w base spare held n 4 (([c0, c1, c2, c3, c4, c5, c6, c7, c8, c9, c10, c11].drop 11).take (Tryz.prog.cellsOf 4)) = xs[6]? := hf 6 { name := "Flag", type := 4, offset := 11, embedded := false, tag := "", pkgPath := "", byteOffset := 112 } rfl
    rw [k4, e6] at f6
    have f6 : DataW.trod enc Tryz.prog w base spare held n 4 [c11] = some y6 := f6
    obtain ⟨a0, h0, _, w0⟩ := DataW.trod_int Tryz.underlying3 f0
    obtain ⟨a1, h1, _, w1⟩ := DataW.trod_string Tryz.underlying9 f1
    obtain ⟨a2, h2, _, w2⟩ := DataW.trod_string Tryz.underlying9 f2
    obtain ⟨d, hd, wk, ws, wn, wu, wf, _⟩ := open_value f3
    obtain ⟨a4, h4, _, w4⟩ := DataW.trod_int Tryz.underlying2 f4
    obtain ⟨a5, h5, _, w5⟩ := DataW.trod_int Tryz.underlying2 f5
    obtain ⟨a6, h6, _⟩ := DataW.trod_bool Tryz.underlying4 f6
    obtain ⟨dk, dsx, dn, du, df, db⟩ := d
    simp only [VD.cells, List.cons.injEq, and_true] at h0 h1 h2 h4 h5 h6 hd
    obtain ⟨rfl, rfl, rfl, rfl, rfl, rfl⟩ := hd
    subst h0 h1 h2 h4 h5 h6
    simp [Lit.wf, IntKind.min, IntKind.max, IntKind.signed, IntKind.bits] at w0 wk wn wu wf w4 w5
    have w1' : a1.size ≤ maxLen := by simpa [Lit.wf] using w1
    have w2' : a2.size ≤ maxLen := by simpa [Lit.wf] using w2
    unfold maxLen at w1' w2' ws
    simp only at ws
    exact ⟨⟨a0, a1, a2, ⟨dk, dsx, dn, du, df, db⟩, a4, a5, a6⟩, rfl, ⟨by simp only; omega, by simp only; omega, by simp only; omega, by simp only; omega, by simp only; omega, by simp only; omega, by simp only; omega, ⟨by simp only; omega, by simp only; omega, by simp only; omega, wf⟩, by simp only; omega, by simp only; omega, by simp only; omega, by simp only; omega⟩⟩
set_option maxRecDepth 100000 in
/-- A slice of calls. -/
theorem open_puts {fuel : Nat} {cs : List Value} {x : DataW H × List MemPlace} (h : DataW.trod enc Tryz.prog w base spare held fuel 39 cs = some x) :
    ∃ (v : Value) (l : List PutD), cs = [v] ∧ PutsC w v l ∧ l.length ≤ maxLen ∧ ∀ p, p ∈ l → PutOk p := by
  obtain ⟨l, a, c, rfl, hl, h2⟩ := open_rows 12 Tryz.underlying39 (by kernel_rfl) (by decide) (fun (p : PutD) cs => cs = p.cells.toList ∧ PutOk p) (fun _ _ _ h => open_put h) h
  refine ⟨_, l, rfl, ⟨a, c, rfl, ?_⟩, hl, fun p hp => ?_⟩
  · rcases h2 with h2 | ⟨g, off, rfl, h2⟩
    · exact .inl h2
    · refine .inr ⟨g, off, rfl, fun i p hp j u hu => ?_⟩
      obtain ⟨ds, ⟨rfl, _⟩, h4⟩ := h2 i p hp
      exact h4 j u (by simpa using hu)
  · obtain ⟨i, hi⟩ := List.mem_iff_getElem?.1 hp
    rcases h2 with h2 | ⟨g, off, rfl, h2⟩
    · rw [h2] at hp; cases hp
    · obtain ⟨ds, ⟨_, h3⟩, _⟩ := h2 i p hi
      exact h3
end
end Go.Proofs.YtaaogjhaokaggaaGreatDoor
namespace Go.Proofs.YtaaogjhaokaggaaGreatDoor
open Go.RowKit

/-- A call's texts are no longer than 2^31 - 1. -/
def fitQ (p : PutD) : Bool := decide (p.key.size ≤ 2147483647) && (decide (p.value.size ≤ 2147483647) && decide (p.v.s.size ≤ 2147483647))
set_option maxRecDepth 100000 in
set_option maxHeartbeats 4000000 in
theorem zzFits2_any (p : PutD) (w : World) :
    Calls Tryz.prog 51 #[.agg p.cells] w fun e w' => e = .returned (.bool (fitQ p)) ∧ Fr [] w w' := by
  obtain ⟨op, key, value, ⟨kind, s, vn, u, f, x⟩, n, m, z⟩ := p
  simp only [PutD.cells, fitQ]
  have hf0 : Fr [] w (w.alloc (.cells #[.int .i64 op, .string key, .string value, .int .i64 kind, .string s, .int .i64 vn, .int .u64 u, .float .f64 f, .bool x, .int .i64 n, .int .i64 m, .bool z] 38)) := (Fr.refl _ _).alloc _
  have HF0 := Lib.hid hf0
  clear hf0
  by_cases h1 : key.size ≤ 2147483647
  case neg =>
    have i1 : (2147483647 : Int) < (key.size : Int) := by omega
    rw [decide_eq_false h1, Bool.false_and]
    clear h1
    go_enter Tryz.func51, Tryz.ntmps51
    go_wp2_with fail
    go_ret
    exact ⟨rfl, HF0.out⟩
  have i1 : (key.size : Int) ≤ 2147483647 := by omega
  rw [decide_eq_true h1, Bool.true_and]
  clear h1
  by_cases h2 : value.size ≤ 2147483647
  case neg =>
    have i2 : (2147483647 : Int) < (value.size : Int) := by omega
    rw [decide_eq_false h2, Bool.false_and]
    clear h2
    go_enter Tryz.func51, Tryz.ntmps51
    go_wp2_with fail
    go_ret
    exact ⟨rfl, HF0.out⟩
  have i2 : (value.size : Int) ≤ 2147483647 := by omega
  rw [decide_eq_true h2, Bool.true_and]
  clear h2
  have hz := zzFits3_any ⟨kind, s, vn, u, f, x⟩ (w.alloc (.cells #[.int .i64 op, .string key, .string value, .int .i64 kind, .string s, .int .i64 vn, .int .u64 u, .float .f64 f, .bool x, .int .i64 n, .int .i64 m, .bool z] 38))
  simp only [VD.cells] at hz
  obtain ⟨r, hr⟩ : ∃ r, r = decide (s.size ≤ 2147483647) := ⟨_, rfl⟩
  rw [← hr] at hz ⊢
  have HZ := Lib.hid hz
  clear hz hr
  cases r
  all_goals
    go_enter Tryz.func51, Tryz.ntmps51
    go_wp2_with (go_at_call 14; refine HZ.out.mono ?_; rintro e w2 ⟨rfl, hf2⟩)
    go_ret
    exact ⟨rfl, HF0.out.trans hf2⟩
/-- A boolean is answered, of which something holds. -/
def AnsB (w : World) (Q : Bool → Prop) (e : Ending) (w' : World) : Prop := ∃ r : Bool, e = .returned (.bool r) ∧ Q r ∧ Fr [] w w'
/-- The calls of a slice fit. -/
def FitsL (l : List PutD) : Prop := l.length ≤ 2147483647 ∧ ∀ p, p ∈ l → fitQ p = true
set_option maxRecDepth 100000 in
set_option maxHeartbeats 4000000 in
theorem zzFits1_any (l : List PutD) (v : Value) (w : World) (hl : l.length ≤ 9223372036854775807) (hP : PutsC w v l) :
    Calls Tryz.prog 26 #[v] w (AnsB w fun r => r = true → FitsL l) := by
  have hsf : ∀ (a : Addr) (k : FloatKind) (b : Nat) (m : Mode) (w : World), (store a (.float k b) m).run Tryz.prog w = stored Tryz.prog w a (.float k b) m := fun a k b m w => run_store Tryz.prog w a _ m rfl
  have hshape : ∃ a c, v = .slice a l.length c := by
    obtain ⟨a, c, rfl, _⟩ := hP
    exact ⟨a, c, rfl⟩
  obtain ⟨a, c, rfl⟩ := hshape
  by_cases hn : l.length ≤ 2147483647
  case neg =>
    have hni : (2147483647 : Int) < (l.length : Int) := by omega
    clear hP hsf hn
    go_enter Tryz.func26, Tryz.ntmps26
    go_wp2_with fail
    go_ret
    exact ⟨false, rfl, (by first | rfl | (intro h; cases h)), Fr.refl _ _⟩
  have hni : (l.length : Int) ≤ 2147483647 := by omega
  have HP := Lib.hid hP
  clear hP
  go_enter Tryz.func26, Tryz.ntmps26
  go_wp2_with fail
  go_loopw [10] (fun i wr => ∃ k : Nat, k ≤ l.length ∧ i = .int .i64 k ∧ Hid ((∀ i p, i < k → l[i]? = some p → fitQ p = true) ∧ Fr [] w wr)) (fun i _ => l.length - (intOf i).toNat)
  case atStart => exact ⟨0, Nat.zero_le _, rfl, Lib.hid ⟨fun i p h _ => by omega, Fr.refl _ _⟩⟩
  case round =>
    obtain ⟨k, hk, rfl, HA⟩ := hrel
    by_cases hlt : k < l.length
    case neg =>
      go_wp2_with fail
      go_ret
      refine ⟨true, rfl, fun _ => ⟨hn, fun p hp => ?_⟩, HA.out.2⟩
      obtain ⟨i, hi⟩ := List.mem_iff_getElem?.1 hp
      exact HA.out.1 i p (by have := (List.getElem?_eq_some_iff.1 hi).1; omega) hi
    obtain ⟨p, hp⟩ : ∃ p, l[k]? = some p := ⟨l[k], List.getElem?_eq_getElem hlt⟩
    obtain ⟨g, off, cap, hv, hcell⟩ := (HP.out.fr HA.out.2).at (by omega)
    have hc := hcell k p hp
    clear hcell
    cases hv
    have hltI : (k : Int) < l.length := by omega
    have hz : ∀ w', Calls Tryz.prog 51 #[.agg p.cells] w' fun e w2 => e = .returned (.bool (fitQ p)) ∧ Fr [] w' w2 := fun w' => zzFits2_any p w'
    have HPK := Lib.hid hp
    clear hp
    have hfit : ∃ r, r = fitQ p := ⟨_, rfl⟩
    obtain ⟨r, hr⟩ := hfit
    rw [← hr] at hz
    have HR := Lib.hid hr
    clear hr
    obtain ⟨op, key, value, ⟨kind, s, vn, u, f, x⟩, n, m, z⟩ := p
    simp only [PutD.cells] at hc hz
    have c0 : wr.cell? ⟨g, off + k * 12, none⟩ = _ := hc 0 _ rfl
    have c1 := hc 1 _ rfl
    have c2 := hc 2 _ rfl
    have c3 := hc 3 _ rfl
    have c4 := hc 4 _ rfl
    have c5 := hc 5 _ rfl
    have c6 := hc 6 _ rfl
    have c7 := hc 7 _ rfl
    have c8 := hc 8 _ rfl
    have c9 := hc 9 _ rfl
    have c10 := hc 10 _ rfl
    have c11 := hc 11 _ rfl
    have hfA : Fr [] wr (wr.alloc (.cells #[.int .i64 op, .string key, .string value, .int .i64 kind, .string s, .int .i64 vn, .int .u64 u, .float .f64 f, .bool x, .int .i64 n, .int .i64 m, .bool z] 38)) := (Fr.refl _ _).alloc _
    have HFA := Lib.hid hfA
    have HZ := Lib.hid hz
    clear hc hfA hz
    cases r with
    | false =>
      go_wp2_with (go_at_call 51; refine (HZ.out _).mono ?_; rintro e w2 ⟨rfl, hf2⟩)
      go_ret
      exact ⟨false, rfl, (by first | rfl | (intro h; cases h)), (HA.out.2.trans HFA.out).trans hf2⟩
    | true =>
      go_wp2_with (go_at_call 51; refine (HZ.out _).mono ?_; rintro e w2 ⟨rfl, hf2⟩; have HF2 := Lib.hid hf2; clear hf2)
      go_roundw
      case rel =>
        refine ⟨k + 1, by omega, by go_num, Lib.hid ⟨fun i p hi hp => ?_, (HA.out.2.trans HFA.out).trans HF2.out⟩⟩
        by_cases hik : i < k
        · exact HA.out.1 i p hik hp
        · have : i = k := by omega
          subst this
          rw [HPK.out] at hp
          cases hp
          exact HR.out.symm
      case measure => simp [intOf]; omega
/-- What lPuts asks of a call. -/
def SmallP (p : PutD) : Prop := (0 ≤ p.op ∧ p.op ≤ 11) ∧ p.key.size ≤ 4000 ∧ p.value.size ≤ 4000 ∧ p.v.s.size ≤ 4000
set_option maxRecDepth 100000 in
set_option maxHeartbeats 4000000 in
theorem lPuts_any (l : List PutD) (v : Value) (w : World) (hfit : FitsL l) (hP : PutsC w v l) :
    Calls Tryz.prog 27 #[v] w (AnsB w fun r => r = true → l.length ≤ 200 ∧ ∀ p, p ∈ l → SmallP p) := by
  have hsf : ∀ (a : Addr) (k : FloatKind) (b : Nat) (m : Mode) (w : World), (store a (.float k b) m).run Tryz.prog w = stored Tryz.prog w a (.float k b) m := fun a k b m w => run_store Tryz.prog w a _ m rfl
  have hshape : ∃ a c, v = .slice a l.length c := by
    obtain ⟨a, c, rfl, _⟩ := hP
    exact ⟨a, c, rfl⟩
  obtain ⟨a, c, rfl⟩ := hshape
  have hn := hfit.1
  have hni : (l.length : Int) ≤ 2147483647 := by omega
  have HFT := Lib.hid hfit
  have HP := Lib.hid hP
  clear hP hfit
  go_enter Tryz.func27, Tryz.ntmps27
  go_wp2_with fail
  go_loopw [3, 8] (fun nn i wr => ∃ k N : Nat, k ≤ l.length ∧ i = .int .i64 k ∧ nn = .int .i64 N ∧ N ≤ 4000 ∧ Hid ((∀ i p, i < k → l[i]? = some p → SmallP p) ∧ Fr [] w wr)) (fun _ i _ => l.length - (intOf i).toNat)
  case atStart => exact ⟨0, 0, Nat.zero_le _, rfl, rfl, by omega, Lib.hid ⟨fun i p h _ => by omega, Fr.refl _ _⟩⟩
  case round =>
    obtain ⟨k, N, hk, rfl, rfl, hN, HA⟩ := hrel
    by_cases hlt : k < l.length
    case neg =>
      have hkl : k = l.length := by omega
      by_cases h200 : l.length ≤ 200
      · have hi : (l.length : Int) ≤ 200 := by omega
        go_wp2_with fail
        go_ret
        refine ⟨true, ?_, fun _ => ⟨h200, fun p hp => ?_⟩, HA.out.2⟩
        · simp
        obtain ⟨i, hi⟩ := List.mem_iff_getElem?.1 hp
        exact HA.out.1 i p (by have := (List.getElem?_eq_some_iff.1 hi).1; omega) hi
      · have hi : ¬ (l.length : Int) ≤ 200 := by omega
        go_wp2_with fail
        go_ret
        exact ⟨false, by simp, (by first | rfl | (intro h; cases h)), HA.out.2⟩
    obtain ⟨p, hp⟩ : ∃ p, l[k]? = some p := ⟨l[k], List.getElem?_eq_getElem hlt⟩
    obtain ⟨g, off, cap, hv, hcell⟩ := (HP.out.fr HA.out.2).at (by omega)
    have hc := hcell k p hp
    clear hcell
    cases hv
    have hltI : (k : Int) < l.length := by omega
    have hft := HFT.out.2 p (List.mem_of_getElem? hp)
    have HPK := Lib.hid hp
    clear hp
    obtain ⟨op, key, value, ⟨kind, s, vn, u, f, x⟩, n, m, z⟩ := p
    simp only [fitQ, Bool.and_eq_true, decide_eq_true_eq] at hft
    obtain ⟨t1, t2, t3⟩ := hft
    simp only [PutD.cells] at hc
    have c0 : wr.cell? ⟨g, off + k * 12, none⟩ = _ := hc 0 _ rfl
    have c1 := hc 1 _ rfl
    have c2 := hc 2 _ rfl
    have c3 := hc 3 _ rfl
    have c4 := hc 4 _ rfl
    have c5 := hc 5 _ rfl
    have c6 := hc 6 _ rfl
    have c7 := hc 7 _ rfl
    have c8 := hc 8 _ rfl
    have c9 := hc 9 _ rfl
    have c10 := hc 10 _ rfl
    have c11 := hc 11 _ rfl
    have hfA : Fr [] wr (wr.alloc (.cells #[.int .i64 op, .string key, .string value, .int .i64 kind, .string s, .int .i64 vn, .int .u64 u, .float .f64 f, .bool x, .int .i64 n, .int .i64 m, .bool z] 38)) := (Fr.refl _ _).alloc _
    have HFA := Lib.hid hfA
    clear hc hfA
    by_cases ho : op < 0
    · go_wp2_with fail
      go_ret
      exact ⟨false, rfl, (by first | rfl | (intro h; cases h)), HA.out.2.trans HFA.out⟩
    by_cases ho2 : 11 < op
    · go_wp2_with fail
      go_ret
      exact ⟨false, rfl, (by first | rfl | (intro h; cases h)), HA.out.2.trans HFA.out⟩
    have hs1 : wrap64 ((N : Int) + wrap64 (wrap64 ((key.size : Int) + (value.size : Int)) + (s.size : Int))) = ((N + (key.size + value.size + s.size) : Nat) : Int) := by unfold wrap64; omega
    obtain ⟨M, hM⟩ : ∃ M, M = N + (key.size + value.size + s.size) := ⟨_, rfl⟩
    rw [← hM] at hs1
    by_cases h4 : M ≤ 4000
    case neg =>
      have h4i : (4000 : Int) < (M : Int) := by omega
      clear h4 hM hN t1 t2 t3
      go_wp2_with fail
      go_ret
      exact ⟨false, rfl, (by first | rfl | (intro h; cases h)), HA.out.2.trans HFA.out⟩
    have h4i : ¬ (4000 : Int) < (M : Int) := by omega
    have HSM : Hid (SmallP ⟨op, key, value, ⟨kind, s, vn, u, f, x⟩, n, m, z⟩) := Lib.hid ⟨⟨by simp only; omega, by simp only; omega⟩, by simp only; omega, by simp only; omega, by simp only; omega⟩
    clear hM hN t1 t2 t3
    go_wp2_with fail
    go_roundw
    case rel =>
      refine ⟨k + 1, M, by omega, by go_num, by first | rfl | (rw [hs1]), h4, Lib.hid ⟨fun i p hi hp => ?_, HA.out.2.trans HFA.out⟩⟩
      by_cases hik : i < k
      · exact HA.out.1 i p hik hp
      · have : i = k := by omega
        subst this
        rw [HPK.out] at hp
        cases hp
        exact HSM.out
    case measure => simp [intOf]; omega
end Go.Proofs.YtaaogjhaokaggaaGreatDoor
