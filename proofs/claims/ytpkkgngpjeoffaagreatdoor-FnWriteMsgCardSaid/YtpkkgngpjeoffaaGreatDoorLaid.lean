/- PROVED HERE: a part of round r2's proofs (text Laid): lemmas and walks that later texts use. CONDITIONS: those written ahead of each theorem. -/
import Derived.Test.YtpkkgngpjeoffaaGreatDoorGlR
import Derived.Test.YtpkkgngpjeoffaaGreatDoorRows
import Derived.Lib.LaidTab
import Derived.Lib.LaidU8
import Derived.OpenShut
import Derived.ChangeArms
namespace Go.Proofs.YtpkkgngpjeoffaaGreatDoor
open Go.RowKit Go.Lib

/-- What a listed variable reads as, with the places of its reading. -/
theorem laid_place {P : Program} {w : World} : ∀ {l : List (String × DataW Unit)} {ps : List MemPlace}, DataW.LaidVars P w l ps → ∀ n d, (n, d) ∈ l →
    ∃ g t cs fuel p, P.globalNamed n = some g ∧ (P.globals[g]?).map (·.type) = some t ∧ w.var? P n = some cs ∧ DataW.trod (fun _ => ()) P w 0 (fun _ => true) false fuel t cs.toList = some (d, p) ∧ (∀ x, x ∈ p → x ∈ ps) ∧ (∀ x, x ∈ MemPlace.row ⟨g, 0, none⟩ cs.size → x ∈ ps)
  | [], _, _, _, _, hm => by cases hm
  | (n', d') :: r, ps, h, n, d, hm => by
    obtain ⟨g, t, cs, fuel, p, q, h1, h2, h3, h4, h5, h6⟩ := h
    rcases List.mem_cons.1 hm with e | hm
    · cases e
      exact ⟨g, t, cs, fuel, p, h1, h2, h3, h4, fun x hx => by rw [h6]; exact List.mem_append_left _ (List.mem_append_right _ hx), fun x hx => by rw [h6]; exact List.mem_append_left _ (List.mem_append_left _ hx)⟩
    · obtain ⟨g2, t2, cs2, fuel2, p2, k1, k2, k3, k4, k5, k6⟩ := laid_place h5 n d hm
      exact ⟨g2, t2, cs2, fuel2, p2, k1, k2, k3, k4, fun x hx => by rw [h6]; exact List.mem_append_right _ (k5 x hx), fun x hx => by rw [h6]; exact List.mem_append_right _ (k6 x hx)⟩

theorem gErr : Tryz.prog.globalNamed "io.EOF" = some 0 := by kernel_rfl
theorem tErr : (Tryz.prog.globals[0]?).map (·.type) = some 48 := by kernel_rfl
theorem tPow : (Tryz.prog.globals[7]?).map (·.type) = some 280 := by kernel_rfl
theorem a280 : Tryz.prog.underlying 280 = some (.array 20 29) := by kernel_rfl
theorem c280 : Tryz.prog.cellsOf 280 = 20 := by kernel_rfl
theorem c29 : Tryz.prog.cellsOf 29 = 1 := by kernel_rfl
theorem c201 : Tryz.prog.cellsOf 201 = 1 := by kernel_rfl
theorem star : "*" ++ "errors.errorString" = "*errors.errorString" := by decide
theorem row199 (u : TypeId) (h : Tryz.prog.typeName? 3 u = some "*errors.errorString") : u = 199 :=
  typeName_ptr_named (P := Tryz.prog) (nm := "errors.errorString") (by rw [star]; kernel_rfl) (by kernel_rfl) (by decide) u (by rw [star]; exact h)
theorem pow_of {W : World} {l : List (String × DataW Unit)} (h : laidMet Tryz.prog l W) (hm : ("internal/strconv.uint64pow10", Rows.laid_internal_strconv_uint64pow10) ∈ l) : Lib.TabIs Tryz.prog W "internal/strconv.uint64pow10" .u64 Lib.pow10Tab := by
  obtain ⟨g, t, cs, fuel, p, h1, h2, h3, h4⟩ := Lib.laidMet.reads h hm
  obtain rfl := Option.some.inj (gPow.symm.trans h1)
  obtain rfl := Option.some.inj (tPow.symm.trans h2)
  have e := cells_of_tab (k := .u64) (zs := Lib.pow10Tab) a280 Tryz.underlying29 c29 c280 h4
  unfold TabIs
  rw [h3, ← e]
theorem trod_iface {H : Type} {enc : TypeId × Value → H} {P : Program} {w : World} {base : Nat} {spare : Nat → Bool} {fuel : Nat} {t : TypeId} {cs : List Value} {x : DataW H × List MemPlace} {ms : Array (String × TypeId)} (ht : P.underlying t = some (.interface ms)) (h : DataW.trod enc P w base spare false fuel t cs = some x) :
    (cs = [.nilIface] ∧ x = (.nil, [])) ∨ ∃ u v name y n, fuel = n + 1 ∧ cs = [.iface u v] ∧ P.typeName? 3 u = some name ∧ DataW.trod enc P w base spare false n u v.cells.toList = some y ∧ x = (.iface name y.1, y.2) := by
  cases fuel with
  | zero => simp [DataW.trod] at h
  | succ n =>
    unfold DataW.trod at h
    rw [ht] at h
    split at h <;> simp_all
    split at h
    · simp_all
    · obtain ⟨⟨a, b⟩, h2, h3⟩ := Option.map_eq_some_iff.1 h
      exact ⟨_, _, ⟨rfl, rfl⟩, _, by assumption, a, b, h2, h3.symm⟩
    · simp_all

set_option maxRecDepth 100000 in
theorem err_of {W : World} {l : List (String × DataW Unit)} (h : laidMet Tryz.prog l W) (hm : ("io.EOF", Rows.laid_io_EOF) ∈ l) :
    ∃ ea : Addr, W.cell? ⟨0, 0, none⟩ = some (.iface 199 (.pointer (some ea))) ∧ ∃ ca ta, W.heap[ea.block]? = some (.cells ca ta (0, 0)) := by
  obtain ⟨ps, hv, _, hrows⟩ := h
  obtain ⟨g, t, cs, fuel, p, h1, h2, h3, h4, h5, h50⟩ := laid_place hv _ _ hm
  obtain rfl := Option.some.inj (gErr.symm.trans h1)
  obtain rfl := Option.some.inj (tErr.symm.trans h2)
  have hc := World.var?_cell h1 h3
  rcases trod_iface Tryz.underlying48 h4 with ⟨_, e⟩ | ⟨u, v, name, y, n, rfl, e1, e2, e3, e4⟩
  · simp [Rows.laid_io_EOF] at e
  · simp only [Rows.laid_io_EOF, Prod.mk.injEq, DataW.iface.injEq] at e4
    obtain ⟨⟨rfl, e5⟩, e6⟩ := e4
    obtain rfl := row199 u e2
    have h0 : W.cell? ⟨0, 0, none⟩ = some (.iface 199 v) := by
      rw [hc, ← Array.getElem?_toList, e1]; rfl
    rcases DataW.trod_pointer Tryz.underlying199 e3 with ⟨_, e⟩ | ⟨a, cs', z, m, rfl, k1, k2, k3, k4⟩
    · rw [e] at e5; simp at e5
    · have hpl : MemPlace.cell a.block a.off ∈ ps := h5 _ (by
        rw [e6, k2, c201]
        exact List.mem_append_left _ (by simp [MemPlace.row]))
      obtain ⟨⟨ca, ta, hr⟩, _⟩ := hrows a.block a.off hpl
      have hsz : 0 < cs.size := by
        have h9 := congrArg List.length e1
        rw [Array.length_toList] at h9
        rw [h9]; exact Nat.zero_lt_one
      have hp0 : MemPlace.cell 0 0 ∈ ps := h50 _ (List.mem_map.2 ⟨0, List.mem_range.2 hsz, rfl⟩)
      have hok := (hrows 0 0 hp0).2 199 v h0
      have hsh := WideShapes.okWide_pointer (P := Tryz.prog) (w := W) (r := .any) (base := 0) (t := 199) (v := v) Tryz.underlying199 hok
      obtain ⟨a', rfl⟩ := hsh
      have : a' = some a := by simpa [Value.cells] using k1
      subst this
      exact ⟨a, h0, ca, ta, hr⟩


theorem gBru : Tryz.prog.globalNamed "math/bits.deBruijn64tab" = some 16 := by kernel_rfl
theorem size_of {W : World} {l : List (String × DataW Unit)} (h : laidMet Tryz.prog l W) (hm : ("math/bits.deBruijn64tab", Rows.laid_math_bits_deBruijn64tab) ∈ l) : 17 ≤ W.heap.size := by
  obtain ⟨g, t, cs, fuel, p, h1, h2, h3, h4⟩ := Lib.laidMet.reads h hm
  obtain rfl := Option.some.inj (gBru.symm.trans h1)
  unfold World.var? at h3
  rw [gBru] at h3
  cases hc : W.heap[16]? with
  | none => simp [hc] at h3
  | some o => have := (Array.getElem?_eq_some_iff.1 hc).1; omega

set_option maxRecDepth 100000 in
/-- THE GLOBALS, out of the row's condition. -/
theorem gv_of_laid {W : World} {l : List (String × DataW Unit)} (h : laidMet Tryz.prog l W)
    (hp : ("internal/strconv.uint64pow10", Rows.laid_internal_strconv_uint64pow10) ∈ l) (he : ("io.EOF", Rows.laid_io_EOF) ∈ l) (hg : ("math/bits.deBruijn64tab", Rows.laid_math_bits_deBruijn64tab) ∈ l) : ∃ ea, Gv W.heap.size ea W := by
  obtain ⟨ea, h0, hr⟩ := err_of h he
  obtain ⟨ca, ta, hr'⟩ := id hr
  have hsz := size_of h hg
  have hpw := pow_of h hp
  have hbl := (Array.getElem?_eq_some_iff.1 hr').1
  clear hp he hg h
  exact ⟨ea, ⟨by omega, Nat.le_refl _, hpw, hbl, h0, ca, ta, hr'⟩⟩

end Go.Proofs.YtpkkgngpjeoffaaGreatDoor
