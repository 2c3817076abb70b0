import Derived.Test.YtaaogjhaokaggaaGreatDoorValB
import Derived.Test.YtaaogjhaokaggaaGreatDoorLinX
import Derived.ProofKit
import Derived.Carry
import Derived.ChangeSame
namespace Go.Proofs.YtaaogjhaokaggaaGreatDoor
open Go.ChangeShapes Go.WideShapes Go.RowKit

theorem laidOutT : laidOutB Tryz.prog = true := by kernel_rfl
section
variable {H : Type} {enc : TypeId × Value → H} {w : World} {base : Nat} {spare : Nat → Bool} {held : Bool}
theorem trod_float {P : Program} {t : TypeId} {k : FloatKind} {fuel : Nat} {cs : List Value} {x : DataW H × List MemPlace} (ht : P.underlying t = some (.float k)) (h : DataW.trod enc P w base spare held fuel t cs = some x) : ∃ n, cs = [.float k n] ∧ x = (.lit (.float k n), []) ∧ (Lit.float k n).wf = true := by
  cases fuel with
  | zero => simp [DataW.trod] at h
  | succ n =>
    unfold DataW.trod at h
    rw [ht] at h
    split at h <;> simp_all
set_option maxRecDepth 100000 in
/-- A value's six cells. -/
theorem open_value {fuel : Nat} {cs : List Value} {x : DataW H × List MemPlace} (h : DataW.trod enc Tryz.prog w base spare held fuel 25 cs = some x) :
    ∃ d : VD, cs = d.cells.toList ∧ (Lit.int .i64 d.kind).wf = true ∧ d.s.size ≤ maxLen ∧ (Lit.int .i64 d.n).wf = true ∧ (Lit.int .u64 (d.u : Int)).wf = true ∧ (Lit.float .f64 d.f).wf = true ∧ x.2 = [] := by
  obtain ⟨xs, n, rfl, rfl, hl, hx, hf⟩ := DataW.trod_struct Tryz.underlying25 h
  have hc6 : Tryz.prog.cellsOf 25 = 6 := by kernel_rfl
  rw [hc6] at hl
  have hx6 : xs.length = 6 := hx
  match cs, hl with
  | [c0, c1, c2, c3, c4, c5], _ =>
    have hg : ∀ i, i < 6 → ∃ y, xs[i]? = some y := fun i hi => ⟨xs[i], List.getElem?_eq_getElem (by omega)⟩
    have k3 : Tryz.prog.cellsOf 3 = 1 := by kernel_rfl
    have k9 : Tryz.prog.cellsOf 9 = 1 := by kernel_rfl
    have k2 : Tryz.prog.cellsOf 2 = 1 := by kernel_rfl
    have k22 : Tryz.prog.cellsOf 22 = 1 := by kernel_rfl
    have k23 : Tryz.prog.cellsOf 23 = 1 := by kernel_rfl
    have k4 : Tryz.prog.cellsOf 4 = 1 := by kernel_rfl
    obtain ⟨y0, e0⟩ := hg 0 (by decide)
    obtain ⟨y1, e1⟩ := hg 1 (by decide)
    obtain ⟨y2, e2⟩ := hg 2 (by decide)
    obtain ⟨y3, e3⟩ := hg 3 (by decide)
    obtain ⟨y4, e4⟩ := hg 4 (by decide)
    obtain ⟨y5, e5⟩ := hg 5 (by decide)
    have f0 : DataW.trod enc Tryz.prog w base spare held n 3 (([c0, c1, c2, c3, c4, c5].drop 0).take (Tryz.prog.cellsOf 3)) = xs[0]? := hf 0 { name := "Kind", type := 3, offset := 0, embedded := false, tag := "", pkgPath := "", byteOffset := 0 } rfl
    rw [k3, e0] at f0
    have f0 : DataW.trod enc Tryz.prog w base spare held n 3 [c0] = some y0 := f0
    have f1 : DataW.trod enc Tryz.prog w base spare held n 9 (([c0, c1, c2, c3, c4, c5].drop 1).take (Tryz.prog.cellsOf 9)) = xs[1]? := hf 1 { name := "S", type := 9, offset := 1, embedded := false, tag := "", pkgPath := "", byteOffset := 8 } rfl
    rw [k9, e1] at f1
    have f1 : DataW.trod enc Tryz.prog w base spare held n 9 [c1] = some y1 := f1
    have f2 : DataW.trod enc Tryz.prog w base spare held n 2 (([c0, c1, c2, c3, c4, c5].drop 2).take (Tryz.prog.cellsOf 2)) = xs[2]? := hf 2 { name := "N", type := 2, offset := 2, embedded := false, tag := "", pkgPath := "", byteOffset := 24 } rfl
    rw [k2, e2] at f2
    have f2 : DataW.trod enc Tryz.prog w base spare held n 2 [c2] = some y2 := f2
    have f3 : DataW.trod enc Tryz.prog w base spare held n 22 (([c0, c1, c2, c3, c4, c5].drop 3).take (Tryz.prog.cellsOf 22)) = xs[3]? := hf 3 { name := "U", type := 22, offset := 3, embedded := false, tag := "", pkgPath := "", byteOffset := 32 } rfl
    rw [k22, e3] at f3
    have f3 : DataW.trod enc Tryz.prog w base spare held n 22 [c3] = some y3 := f3
    have f4 : DataW.trod enc Tryz.prog w base spare held n 23 (([c0, c1, c2, c3, c4, c5].drop 4).take (Tryz.prog.cellsOf 23)) = xs[4]? := hf 4 { name := "F", type := 23, offset := 4, embedded := false, tag := "", pkgPath := "", byteOffset := 40 } rfl
    rw [k23, e4] at f4
    have f4 : DataW.trod enc Tryz.prog w base spare held n 23 [c4] = some y4 := f4
    have f5 : DataW.trod enc Tryz.prog w base spare held n 4 (([c0, c1, c2, c3, c4, c5].drop 5).take (Tryz.prog.cellsOf 4)) = xs[5]? := hf 5 { name := "B", type := 4, offset := 5, embedded := false, tag := "", pkgPath := "", byteOffset := 48 } rfl
    rw [k4, e5] at f5
    have f5 : DataW.trod enc Tryz.prog w base spare held n 4 [c5] = some y5 := f5
    obtain ⟨a0, h0, g0, w0⟩ := DataW.trod_int Tryz.underlying3 f0
    obtain ⟨a1, h1, g1, w1⟩ := DataW.trod_string Tryz.underlying9 f1
    obtain ⟨a2, h2, g2, w2⟩ := DataW.trod_int Tryz.underlying2 f2
    obtain ⟨a3, h3, g3, w3⟩ := DataW.trod_int Tryz.underlying22 f3
    obtain ⟨a4, h4, g4, w4⟩ := trod_float Tryz.underlying23 f4
    obtain ⟨a5, h5, g5⟩ := DataW.trod_bool Tryz.underlying4 f5
    simp only [List.cons.injEq, and_true] at h0 h1 h2 h3 h4 h5
    subst h0 h1 h2 h3 h4 h5
    have hu0 : 0 ≤ a3 := by
      simp [Lit.wf, IntKind.min, IntKind.max, IntKind.signed, IntKind.bits] at w3
      omega
    obtain ⟨u, rfl⟩ := Int.eq_ofNat_of_zero_le hu0
    have hz : xs.flatMap (·.2) = [] := by
      rw [List.flatMap_eq_nil_iff]
      intro y hy
      obtain ⟨i, hi⟩ := List.mem_iff_getElem?.1 hy
      have hi6 : i < 6 := by have := (List.getElem?_eq_some_iff.1 hi).1; omega
      match i, hi6 with
      | 0, _ => rw [e0] at hi; cases hi; rw [g0]
      | 1, _ => rw [e1] at hi; cases hi; rw [g1]
      | 2, _ => rw [e2] at hi; cases hi; rw [g2]
      | 3, _ => rw [e3] at hi; cases hi; rw [g3]
      | 4, _ => rw [e4] at hi; cases hi; rw [g4]
      | 5, _ => rw [e5] at hi; cases hi; rw [g5]
    exact ⟨⟨a0, a1, a2, u, a4, a5⟩, rfl, w0, w1, w2, w3, w4, hz⟩
end
end Go.Proofs.YtaaogjhaokaggaaGreatDoor
namespace Go.Proofs.YtaaogjhaokaggaaGreatDoor
open Go.ChangeShapes Go.WideShapes Go.RowKit

section
variable {H : Type} {enc : TypeId × Value → H} {w : World} {base : Nat} {spare : Nat → Bool} {held : Bool}
/-- A slice of whatever is read. -/
theorem open_rows {P : Program} {t e : TypeId} (sz : Nat) (ht : P.underlying t = some (.slice e)) (hsz : P.cellsOf e = sz) (h0 : 0 < sz) {α : Type} (R : α → List Value → Prop)
    (hone : ∀ fuel cs y, DataW.trod enc P w base spare held fuel e cs = some y → ∃ d, R d cs) {fuel : Nat} {cs : List Value} {x : DataW H × List MemPlace} (h : DataW.trod enc P w base spare held fuel t cs = some x) :
    ∃ (l : List α) (a : Option Addr) (c : Nat), cs = [.slice a l.length c] ∧ l.length ≤ maxLen ∧ (l = [] ∨ ∃ g off, a = some ⟨g, off, none⟩ ∧ ∀ i d, l[i]? = some d → ∃ ds, R d ds ∧ ∀ j u, ds[j]? = some u → w.cell? ⟨g, off + i * sz + j, none⟩ = some u) := by
  rcases DataW.trod_slice ht h with ⟨rfl, _⟩ | ⟨a, len, cap, elems, rest, n, rfl, rfl, _, hb, hlc, hcm, hel, hat, _, _⟩
  · exact ⟨[], none, 0, rfl, Nat.zero_le _, .inl rfl⟩
  rw [hsz] at hat
  have hex : ∀ i, i < len → ∃ d ds, R d ds ∧ w.cells? base (a.add (i * sz)) sz = some ds := fun i hi => by
    have h1 := hat i hi
    have h2 : elems[i]? = some elems[i] := List.getElem?_eq_getElem (by omega)
    rw [h2] at h1
    obtain ⟨ds, h3, h4⟩ := Option.bind_eq_some_iff.1 h1
    obtain ⟨d, h5⟩ := hone _ _ _ h4
    exact ⟨d, ds, h5, h3⟩
  have hl : ∀ m, m ≤ len → ∃ l : List α, l.length = m ∧ ∀ i d, l[i]? = some d → ∃ ds, R d ds ∧ w.cells? base (a.add (i * sz)) sz = some ds := by
    intro m
    induction m with
    | zero => exact fun _ => ⟨[], rfl, fun i d hd => by simp at hd⟩
    | succ m ih =>
      intro hm
      obtain ⟨l, h1, h2⟩ := ih (by omega)
      obtain ⟨d, ds, h3, h4⟩ := hex m (by omega)
      refine ⟨l ++ [d], by simp [h1], fun i y hy => ?_⟩
      by_cases hi : i < l.length
      · rw [List.getElem?_append_left hi] at hy
        exact h2 i y hy
      · rw [List.getElem?_append_right (by omega)] at hy
        have hi0 : i - l.length = 0 := by
          have := (List.getElem?_eq_some_iff.1 hy).1
          simp at this; omega
        rw [hi0] at hy
        simp at hy
        subst hy
        have : i = m := by omega
        subst this
        exact ⟨ds, h3, h4⟩
  obtain ⟨l, h1, h2⟩ := hl len (Nat.le_refl _)
  refine ⟨l, some a, cap, by rw [h1], by omega, ?_⟩
  by_cases hn : l = []
  · exact .inl hn
  have hlen : 0 < l.length := List.length_pos_iff.2 hn
  obtain ⟨ds0, _, hc0⟩ := h2 0 l[0] (List.getElem?_eq_getElem hlen)
  have hsp : a.spot = none := by
    obtain ⟨_, k2, k3⟩ := World.cells?_some hc0
    have k4 := k3 0 h0
    have : (a.add (0 * sz)).add 0 = a := by simp [Addr.add]
    rw [this, List.getElem?_eq_getElem (show 0 < ds0.length by omega)] at k4
    unfold World.cell? at k4
    split at k4
    · split at k4
      · cases k4
      · rename_i hh; simpa using hh
    · cases k4
  obtain ⟨g, off, sp⟩ := a
  simp only at hsp
  subst hsp
  refine .inr ⟨g, off, rfl, fun i d hd => ?_⟩
  obtain ⟨ds, k1, k2⟩ := h2 i d hd
  refine ⟨ds, k1, fun j u hu => ?_⟩
  obtain ⟨_, k3, k4⟩ := World.cells?_some k2
  have hj : j < sz := by have := (List.getElem?_eq_some_iff.1 hu).1; omega
  have k5 := k4 j hj
  have e1 : ((⟨g, off, none⟩ : Addr).add (i * sz)).add j = ⟨g, off + i * sz + j, none⟩ := by
    unfold Addr.add
    split <;> split <;> simp_all
  rw [e1, hu] at k5
  exact k5

set_option maxRecDepth 100000 in
/-- A pair's two cells. -/
theorem open_pair {fuel : Nat} {cs : List Value} {x : DataW H × List MemPlace} (h : DataW.trod enc Tryz.prog w base spare held fuel 80 cs = some x) :
    ∃ p : ByteArray × ByteArray, cs = [.string p.1, .string p.2] := by
  obtain ⟨xs, n, rfl, rfl, hl, hx, hf⟩ := DataW.trod_struct Tryz.underlying80 h
  have hc : Tryz.prog.cellsOf 80 = 2 := by kernel_rfl
  have k9 : Tryz.prog.cellsOf 9 = 1 := by kernel_rfl
  rw [hc] at hl
  have hx2 : xs.length = 2 := hx
  match cs, hl with
  | [c0, c1], _ =>
    have hg : ∀ i, i < 2 → ∃ y, xs[i]? = some y := fun i hi => ⟨xs[i], List.getElem?_eq_getElem (by omega)⟩
    obtain ⟨y0, e0⟩ := hg 0 (by decide)
    obtain ⟨y1, e1⟩ := hg 1 (by decide)
    have f0 : DataW.trod enc Tryz.prog w base spare held n 9 (([c0, c1].drop 0).take (Tryz.prog.cellsOf 9)) = xs[0]? := hf 0 { name := "Key", type := 9, offset := 0, embedded := false, tag := "", pkgPath := "", byteOffset := 0 } rfl
    rw [k9, e0] at f0
    have f0 : DataW.trod enc Tryz.prog w base spare held n 9 [c0] = some y0 := f0
    have f1 : DataW.trod enc Tryz.prog w base spare held n 9 (([c0, c1].drop 1).take (Tryz.prog.cellsOf 9)) = xs[1]? := hf 1 { name := "Value", type := 9, offset := 1, embedded := false, tag := "", pkgPath := "", byteOffset := 16 } rfl
    rw [k9, e1] at f1
    have f1 : DataW.trod enc Tryz.prog w base spare held n 9 [c1] = some y1 := f1
    obtain ⟨a0, h0, _, _⟩ := DataW.trod_string Tryz.underlying9 f0
    obtain ⟨a1, h1, _, _⟩ := DataW.trod_string Tryz.underlying9 f1
    simp only [List.cons.injEq, and_true] at h0 h1
    subst h0 h1
    exact ⟨(a0, a1), rfl⟩
set_option maxRecDepth 100000 in
theorem open_pairs {t : TypeId} (ht : Tryz.prog.underlying t = some (.slice 80)) {fuel : Nat} {cs : List Value} {x : DataW H × List MemPlace} (h : DataW.trod enc Tryz.prog w base spare held fuel t cs = some x) :
    ∃ (v : Value) (l : List (ByteArray × ByteArray)), cs = [v] ∧ PairsIn w v l ∧ l.length ≤ maxLen := by
  obtain ⟨l, a, c, rfl, hl, h2⟩ := open_rows 2 ht (by kernel_rfl) (by decide) (fun (p : ByteArray × ByteArray) cs => cs = [.string p.1, .string p.2]) (fun _ _ _ h => open_pair h) h
  refine ⟨_, l, rfl, ⟨a, c, rfl, ?_⟩, hl⟩
  rcases h2 with h2 | ⟨g, off, rfl, h2⟩
  · exact .inl h2
  · refine .inr ⟨g, off, rfl, fun i p hp => ?_⟩
    obtain ⟨ds, rfl, h3⟩ := h2 i p hp
    exact ⟨h3 0 _ rfl, h3 1 _ rfl⟩
def VdOk (d : VD) : Prop := -9223372036854775808 ≤ d.n ∧ d.n ≤ 9223372036854775807 ∧ d.u < 18446744073709551616 ∧ d.f < 18446744073709551616
set_option maxRecDepth 100000 in
theorem open_values {t : TypeId} (ht : Tryz.prog.underlying t = some (.slice 25)) {fuel : Nat} {cs : List Value} {x : DataW H × List MemPlace} (h : DataW.trod enc Tryz.prog w base spare held fuel t cs = some x) :
    ∃ (v : Value) (l : List VD), cs = [v] ∧ ValsIn w v l ∧ l.length ≤ maxLen ∧ ∀ d, d ∈ l → VdOk d := by
  obtain ⟨l, a, c, rfl, hl, h2⟩ := open_rows 6 ht (by kernel_rfl) (by decide) (fun (d : VD) cs => cs = d.cells.toList ∧ VdOk d) (fun _ _ _ h => by
    obtain ⟨d, hd, wk, ws, wn, wu, wf, _⟩ := open_value h
    refine ⟨d, hd, ?_⟩
    simp [Lit.wf, IntKind.min, IntKind.max, IntKind.signed, IntKind.bits] at wn wu wf
    exact ⟨by omega, by omega, by omega, wf⟩) h
  refine ⟨_, l, rfl, ⟨a, c, rfl, ?_⟩, hl, fun d hd => ?_⟩
  · rcases h2 with h2 | ⟨g, off, rfl, h2⟩
    · exact .inl h2
    · refine .inr ⟨g, off, rfl, fun i d hd j u hu => ?_⟩
      obtain ⟨ds, ⟨rfl, _⟩, h3⟩ := h2 i d hd
      exact h3 j u (by simpa using hu)
  · obtain ⟨i, hi⟩ := List.mem_iff_getElem?.1 hd
    rcases h2 with h2 | ⟨g, off, rfl, h2⟩
    · rw [h2] at hd; cases hd
    · obtain ⟨ds, ⟨_, h3⟩, _⟩ := h2 i d hi
      exact h3
set_option maxRecDepth 100000 in
/-- A line's seven cells. -/
theorem open_line {fuel : Nat} {cs : List Value} {x : DataW H × List MemPlace} (h : DataW.trod enc Tryz.prog w base spare held fuel 43 cs = some x) :
    ∃ e : LnD, LnOk e ∧ LineIn w cs.toArray e := by
  obtain ⟨xs, n, rfl, rfl, hl, hx, hf⟩ := DataW.trod_struct Tryz.underlying43 h
  have hc7 : Tryz.prog.cellsOf 43 = 7 := by kernel_rfl
  rw [hc7] at hl
  have hx7 : xs.length = 7 := hx
  match cs, hl with
  | [c0, c1, c2, c3, c4, c5, c6], _ =>
    have hg : ∀ i, i < 7 → ∃ y, xs[i]? = some y := fun i hi => ⟨xs[i], List.getElem?_eq_getElem (by omega)⟩
    have k9 : Tryz.prog.cellsOf 9 = 1 := by kernel_rfl
    have k40 : Tryz.prog.cellsOf 40 = 1 := by kernel_rfl
    have k41 : Tryz.prog.cellsOf 41 = 1 := by kernel_rfl
    have k2 : Tryz.prog.cellsOf 2 = 1 := by kernel_rfl
    have k4 : Tryz.prog.cellsOf 4 = 1 := by kernel_rfl
    obtain ⟨y0, e0⟩ := hg 0 (by decide)
    obtain ⟨y1, e1⟩ := hg 1 (by decide)
    obtain ⟨y2, e2⟩ := hg 2 (by decide)
    obtain ⟨y3, e3⟩ := hg 3 (by decide)
    obtain ⟨y4, e4⟩ := hg 4 (by decide)
    obtain ⟨y5, e5⟩ := hg 5 (by decide)
    obtain ⟨y6, e6⟩ := hg 6 (by decide)
    have f0 : DataW.trod enc Tryz.prog w base spare held n 9 (([c0, c1, c2, c3, c4, c5, c6].drop 0).take (Tryz.prog.cellsOf 9)) = xs[0]? := hf 0 { name := "Name", type := 9, offset := 0, embedded := false, tag := "", pkgPath := "", byteOffset := 0 } rfl
    rw [k9, e0] at f0
    have f0 : DataW.trod enc Tryz.prog w base spare held n 9 [c0] = some y0 := f0
    have f1 : DataW.trod enc Tryz.prog w base spare held n 40 (([c0, c1, c2, c3, c4, c5, c6].drop 1).take (Tryz.prog.cellsOf 40)) = xs[1]? := hf 1 { name := "Tags", type := 40, offset := 1, embedded := false, tag := "", pkgPath := "", byteOffset := 16 } rfl
    rw [k40, e1] at f1
    have f1 : DataW.trod enc Tryz.prog w base spare held n 40 [c1] = some y1 := f1
    have f2 : DataW.trod enc Tryz.prog w base spare held n 40 (([c0, c1, c2, c3, c4, c5, c6].drop 2).take (Tryz.prog.cellsOf 40)) = xs[2]? := hf 2 { name := "Fields", type := 40, offset := 2, embedded := false, tag := "", pkgPath := "", byteOffset := 40 } rfl
    rw [k40, e2] at f2
    have f2 : DataW.trod enc Tryz.prog w base spare held n 40 [c2] = some y2 := f2
    have f3 : DataW.trod enc Tryz.prog w base spare held n 41 (([c0, c1, c2, c3, c4, c5, c6].drop 3).take (Tryz.prog.cellsOf 41)) = xs[3]? := hf 3 { name := "Values", type := 41, offset := 3, embedded := false, tag := "", pkgPath := "", byteOffset := 64 } rfl
    rw [k41, e3] at f3
    have f3 : DataW.trod enc Tryz.prog w base spare held n 41 [c3] = some y3 := f3
    have f4 : DataW.trod enc Tryz.prog w base spare held n 2 (([c0, c1, c2, c3, c4, c5, c6].drop 4).take (Tryz.prog.cellsOf 2)) = xs[4]? := hf 4 { name := "N", type := 2, offset := 4, embedded := false, tag := "", pkgPath := "", byteOffset := 88 } rfl
    rw [k2, e4] at f4
    have f4 : DataW.trod enc Tryz.prog w base spare held n 2 [c4] = some y4 := f4
    have f5 : DataW.trod enc Tryz.prog w base spare held n 4 (([c0, c1, c2, c3, c4, c5, c6].drop 5).take (Tryz.prog.cellsOf 4)) = xs[5]? := hf 5 { name := "None", type := 4, offset := 5, embedded := false, tag := "", pkgPath := "", byteOffset := 96 } rfl
    rw [k4, e5] at f5
    have f5 : DataW.trod enc Tryz.prog w base spare held n 4 [c5] = some y5 := f5
    have f6 : DataW.trod enc Tryz.prog w base spare held n 4 (([c0, c1, c2, c3, c4, c5, c6].drop 6).take (Tryz.prog.cellsOf 4)) = xs[6]? := hf 6 { name := "Raw", type := 4, offset := 6, embedded := false, tag := "", pkgPath := "", byteOffset := 97 } rfl
    rw [k4, e6] at f6
    have f6 : DataW.trod enc Tryz.prog w base spare held n 4 [c6] = some y6 := f6
    obtain ⟨a0, h0, _, _⟩ := DataW.trod_string Tryz.underlying9 f0
    obtain ⟨v1, l1, h1, p1, b1⟩ := open_pairs Tryz.underlying40 f1
    obtain ⟨v2, l2, h2, p2, b2⟩ := open_pairs Tryz.underlying40 f2
    obtain ⟨v3, l3, h3, p3, b3, o3⟩ := open_values Tryz.underlying41 f3
    obtain ⟨a4, h4, _, w4⟩ := DataW.trod_int Tryz.underlying2 f4
    obtain ⟨a5, h5, _⟩ := DataW.trod_bool Tryz.underlying4 f5
    obtain ⟨a6, h6, _⟩ := DataW.trod_bool Tryz.underlying4 f6
    simp only [List.cons.injEq, and_true] at h0 h1 h2 h3 h4 h5 h6
    subst h0 h1 h2 h3 h4 h5 h6
    simp [Lit.wf, IntKind.min, IntKind.max, IntKind.signed, IntKind.bits] at w4
    unfold maxLen at b1 b2 b3
    exact ⟨⟨a0, l1, l2, l3, a4, a5, a6⟩, ⟨by simp only; omega, by simp only; omega, by simp only; omega, by simp only; omega, by simp only; omega, o3⟩, _, _, _, rfl, p1, p2, p3⟩
set_option maxRecDepth 100000 in
/-- A slice of lines. -/
theorem open_lines {fuel : Nat} {cs : List Value} {x : DataW H × List MemPlace} (h : DataW.trod enc Tryz.prog w base spare held fuel 35 cs = some x) :
    ∃ (v : Value) (l : List LnD), cs = [v] ∧ LinesIn w v l ∧ l.length ≤ maxLen ∧ ∀ e, e ∈ l → LnOk e := by
  obtain ⟨l, a, c, rfl, hl, h2⟩ := open_rows 7 Tryz.underlying35 (by kernel_rfl) (by decide) (fun (e : LnD) cs => LnOk e ∧ LineIn w cs.toArray e) (fun _ _ _ h => open_line h) h
  refine ⟨_, l, rfl, ⟨a, c, rfl, ?_⟩, hl, fun e he => ?_⟩
  · rcases h2 with h2 | ⟨g, off, rfl, h2⟩
    · exact .inl h2
    · refine .inr ⟨g, off, rfl, fun i e he => ?_⟩
      obtain ⟨ds, ⟨_, h3⟩, h4⟩ := h2 i e he
      exact ⟨ds.toArray, h3, fun j u hu => h4 j u (by simpa using hu)⟩
  · obtain ⟨i, hi⟩ := List.mem_iff_getElem?.1 he
    rcases h2 with h2 | ⟨g, off, rfl, h2⟩
    · rw [h2] at he; cases he
    · obtain ⟨ds, ⟨h3, _⟩, _⟩ := h2 i e hi
      exact h3
end
end Go.Proofs.YtaaogjhaokaggaaGreatDoor
