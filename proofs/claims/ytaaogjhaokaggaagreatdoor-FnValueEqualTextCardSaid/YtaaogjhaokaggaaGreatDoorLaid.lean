import Derived.Test.YtaaogjhaokaggaaGreatDoorVshelf
import Derived.Test.YtaaogjhaokaggaaGreatDoorKeyB
import Derived.Test.YtaaogjhaokaggaaGreatDoorRows
import Derived.Lib.LaidU8T
import Derived.Lib.LaidTab
import Derived.OpenShut
import Derived.ChangeArms
namespace Go.Proofs.YtaaogjhaokaggaaGreatDoor
open Go.RowKit Go.Lib

/-- utf8.ValidString, by the shelf. -/
theorem validSaid : ValidSaid := fun s w hs hT => Any.utf8_ValidString Tryz.lays196 s w hs hT

/-- What a listed variable reads as, with the places of its reading. -/
theorem laid_place {P : Program} {w : World} : ∀ {l : List (String × DataW Unit)} {ps : List MemPlace}, DataW.LaidVars P w l ps → ∀ n d, (n, d) ∈ l →
    ∃ g t cs fuel p, P.globalNamed n = some g ∧ (P.globals[g]?).map (·.type) = some t ∧ w.var? P n = some cs ∧ DataW.trod (fun _ => ()) P w 0 (fun _ => true) false fuel t cs.toList = some (d, p) ∧ (∀ x, x ∈ p → x ∈ ps) ∧ (∀ x, x ∈ MemPlace.row ⟨g, 0, none⟩ cs.size → x ∈ ps)
  | [], _, _, _, _, hm => by cases hm
  | (n', d') :: r, ps, h, n, d, hm => by
    obtain ⟨g, t, cs, fuel, p, q, h1, h2, h3, h4, h5, h6⟩ := h
    rcases List.mem_cons.1 hm with e | hm
    · cases e
      exact ⟨g, t, cs, fuel, p, h1, h2, h3, h4, fun x hx => by rw [h6]; exact List.mem_append_left _ (List.mem_append_right _ hx), fun x hx => by rw [h6]; exact List.mem_append_left _ (List.mem_append_left _ hx)⟩
    · obtain ⟨g2, t2, cs2, fuel2, p2, k1, k2, k3, k4, k5, k6⟩ := laid_place h5 n d hm
      exact ⟨g2, t2, cs2, fuel2, p2, k1, k2, k3, k4, fun x hx => by rw [h6]; exact List.mem_append_right _ (k5 x hx), fun x hx => by rw [h6]; exact List.mem_append_right _ (k6 x hx)⟩

theorem gErr : Tryz.prog.globalNamed "pub-teleprinter/pub/lineprotocol/lineprotocol.ErrValueOutOfRange" = some 0 := by kernel_rfl
theorem tErr : (Tryz.prog.globals[0]?).map (·.type) = some 83 := by kernel_rfl
theorem gTen : Tryz.prog.globalNamed "internal/strconv.pow10Tab" = some 8 := by kernel_rfl
theorem tTen : (Tryz.prog.globals[8]?).map (·.type) = some 228 := by kernel_rfl
theorem gPow1 : Tryz.prog.globalNamed "internal/strconv.uint64pow10" = some 1 := by kernel_rfl
theorem tPow : (Tryz.prog.globals[1]?).map (·.type) = some 162 := by kernel_rfl
theorem a162 : Tryz.prog.underlying 162 = some (.array 20 22) := by kernel_rfl
theorem c162 : Tryz.prog.cellsOf 162 = 20 := by kernel_rfl
theorem c22 : Tryz.prog.cellsOf 22 = 1 := by kernel_rfl
theorem c227 : Tryz.prog.cellsOf 227 = 2 := by kernel_rfl
theorem c228 : Tryz.prog.cellsOf 228 = 1392 := by kernel_rfl
theorem c197 : Tryz.prog.cellsOf 197 = 1 := by kernel_rfl
theorem star : "*" ++ "errors.errorString" = "*errors.errorString" := by decide
theorem row195 (u : TypeId) (h : Tryz.prog.typeName? 3 u = some "*errors.errorString") : u = 195 :=
  typeName_ptr_named (P := Tryz.prog) (nm := "errors.errorString") (by rw [star]; kernel_rfl) (by kernel_rfl) (by decide) u (by rw [star]; exact h)

theorem pow_of {W : World} {l : List (String × DataW Unit)} (h : laidMet Tryz.prog l W) (hm : ("internal/strconv.uint64pow10", Rows.laid_internal_strconv_uint64pow10) ∈ l) : Lib.TabIs Tryz.prog W "internal/strconv.uint64pow10" .u64 Lib.pow10Tab := by
  obtain ⟨g, t, cs, fuel, p, h1, h2, h3, h4⟩ := Lib.laidMet.reads h hm
  obtain rfl := Option.some.inj (gPow1.symm.trans h1)
  obtain rfl := Option.some.inj (tPow.symm.trans h2)
  have e := cells_of_tab (k := .u64) (zs := Lib.pow10Tab) a162 Tryz.underlying22 c22 c162 h4
  unfold TabIs
  rw [h3, ← e]

theorem utf8_of {W : World} {l : List (String × DataW Unit)} (h : laidMet Tryz.prog l W) (hf : ("unicode/utf8.first", Rows.laid_unicode_utf8_first) ∈ l) (ha : ("unicode/utf8.acceptRanges", Rows.laid_unicode_utf8_acceptRanges) ∈ l) : Lib.Utf8Tabs 2 3 W := by
  have e1 : Rows.laid_unicode_utf8_first = Lib.firstData := by kernel_rfl
  have e2 : (Rows.laid_unicode_utf8_acceptRanges : DataW Unit) = Lib.acceptData := by kernel_rfl
  rw [e1] at hf
  rw [e2] at ha
  exact utf8Tabs_of_readsT (U8Types.of196 Tryz.lays196) ⟨by kernel_rfl, by kernel_rfl, by kernel_rfl, by kernel_rfl, by kernel_rfl, by kernel_rfl, by kernel_rfl⟩ (Lib.laidMet.reads h hf) (Lib.laidMet.reads h ha)

theorem ten_of {W : World} {l : List (String × DataW Unit)} (h : laidMet Tryz.prog l W) (hm : ("internal/strconv.pow10Tab", Rows.laid_internal_strconv_pow10Tab) ∈ l) (i : Nat) (hi : i < 696) :
    W.cell? ⟨8, 2 * i, none⟩ = some (.int .u64 (p10 i).1) ∧ W.cell? ⟨8, 2 * i + 1, none⟩ = some (.int .u64 (p10 i).2) := by
  obtain ⟨g, t, cs, fuel, p, h1, h2, h3, h4⟩ := Lib.laidMet.reads h hm
  obtain rfl := Option.some.inj (gTen.symm.trans h1)
  obtain rfl := Option.some.inj (tTen.symm.trans h2)
  have hv := World.var?_cell h1 h3
  obtain ⟨xs, m, rfl, hx, hl, hn, hel⟩ := DataW.trod_array Tryz.underlying228 h4
  have hd : xs.map (·.1) = Go.Pinned.pow10Rows.map fun x => (DataW.agg [.lit (.int .u64 x.1), .lit (.int .u64 x.2)] : DataW Unit) := by
    have := congrArg Prod.fst hx
    simp only [Rows.laid_internal_strconv_pow10Tab, Go.Pinned.pow10Tab, DataW.agg.injEq] at this
    exact this.symm
  have hi2 := hel i hi
  rw [c227] at hi2
  have hxi : i < xs.length := by omega
  have hri : i < Go.Pinned.pow10Rows.length := by
    have := congrArg List.length hd
    simp only [List.length_map] at this
    omega
  have hp : p10 i = Go.Pinned.pow10Rows[i] := by simp [p10, hri]
  have hd2 := congrArg (fun x => x[i]?) hd
  simp only [List.getElem?_map, List.getElem?_eq_getElem hxi, List.getElem?_eq_getElem hri, Option.map_some, Option.some.injEq] at hd2
  rw [List.getElem?_eq_getElem hxi] at hi2
  obtain ⟨ys, m2, rfl, hy, hl2, hn2, hf⟩ := DataW.trod_struct Tryz.underlying227 hi2
  rw [c227] at hl2
  have hf0 : DataW.trod (fun _ => ()) Tryz.prog W 0 (fun _ => true) false m2 22 ((((cs.toList.drop (i * 2)).take 2).drop 0).take (Tryz.prog.cellsOf 22)) = ys[0]? := hf 0 _ rfl
  have hf1 : DataW.trod (fun _ => ()) Tryz.prog W 0 (fun _ => true) false m2 22 ((((cs.toList.drop (i * 2)).take 2).drop 1).take (Tryz.prog.cellsOf 22)) = ys[1]? := hf 1 _ rfl
  rw [c22] at hf0 hf1
  have hy1 := congrArg Prod.fst hy
  rw [hd2] at hy1
  simp only [DataW.agg.injEq] at hy1
  match ys, hn2, hy1, hf0, hf1 with
  | [y0, y1], _, hy1, hf0, hf1 =>
    simp only [List.map_cons, List.map_nil, List.cons.injEq, and_true] at hy1
    obtain ⟨n0, e0, e0', _⟩ := DataW.trod_int Tryz.underlying22 (show DataW.trod _ Tryz.prog W 0 _ false m2 22 _ = some y0 from hf0)
    obtain ⟨n1, e1, e1', _⟩ := DataW.trod_int Tryz.underlying22 (show DataW.trod _ Tryz.prog W 0 _ false m2 22 _ = some y1 from hf1)
    rw [e0', e1'] at hy1
    simp only [DataW.lit.injEq, Lit.int.injEq, true_and] at hy1
    obtain ⟨r0, r1⟩ := hy1
    rw [hp, r0, r1]
    have q0 := congrArg (fun x => x[0]?) e0
    have q1 := congrArg (fun x => x[0]?) e1
    simp [List.getElem?_drop] at q0 q1
    rw [hv, hv]
    refine ⟨?_, ?_⟩
    · rw [Nat.mul_comm]; exact q0
    · rw [Nat.mul_comm]; exact q1

theorem trod_iface {H : Type} {enc : TypeId × Value → H} {P : Program} {w : World} {base : Nat} {spare : Nat → Bool} {fuel : Nat} {t : TypeId} {cs : List Value} {x : DataW H × List MemPlace} {ms : Array (String × TypeId)} (ht : P.underlying t = some (.interface ms)) (h : DataW.trod enc P w base spare false fuel t cs = some x) :
    (cs = [.nilIface] ∧ x = (.nil, [])) ∨ ∃ u v name y n, fuel = n + 1 ∧ cs = [.iface u v] ∧ P.typeName? 3 u = some name ∧ DataW.trod enc P w base spare false n u v.cells.toList = some y ∧ x = (.iface name y.1, y.2) := by
  cases fuel with
  | zero => simp [DataW.trod] at h
  | succ n =>
    unfold DataW.trod at h
    rw [ht] at h
    split at h <;> simp_all
    split at h
    · simp_all
    · obtain ⟨⟨a, b⟩, h2, h3⟩ := Option.map_eq_some_iff.1 h
      exact ⟨_, _, ⟨rfl, rfl⟩, _, by assumption, a, b, h2, h3.symm⟩
    · simp_all

set_option maxRecDepth 100000 in
theorem err_of {W : World} {l : List (String × DataW Unit)} (h : laidMet Tryz.prog l W) (hm : ("pub-teleprinter/pub/lineprotocol/lineprotocol.ErrValueOutOfRange", Rows.laid_pub_teleprinter_pub_lineprotocol_lineprotocol_ErrValueOutOfRange) ∈ l) :
    ∃ ea : Addr, W.cell? ⟨0, 0, none⟩ = some (.iface 195 (.pointer (some ea))) ∧ ∃ ca ta, W.heap[ea.block]? = some (.cells ca ta (0, 0)) := by
  obtain ⟨ps, hv, _, hrows⟩ := h
  obtain ⟨g, t, cs, fuel, p, h1, h2, h3, h4, h5, h50⟩ := laid_place hv _ _ hm
  obtain rfl := Option.some.inj (gErr.symm.trans h1)
  obtain rfl := Option.some.inj (tErr.symm.trans h2)
  have hc := World.var?_cell h1 h3
  rcases trod_iface Tryz.underlying83 h4 with ⟨_, e⟩ | ⟨u, v, name, y, n, rfl, e1, e2, e3, e4⟩
  · simp [Rows.laid_pub_teleprinter_pub_lineprotocol_lineprotocol_ErrValueOutOfRange] at e
  · simp only [Rows.laid_pub_teleprinter_pub_lineprotocol_lineprotocol_ErrValueOutOfRange, Prod.mk.injEq, DataW.iface.injEq] at e4
    obtain ⟨⟨rfl, e5⟩, e6⟩ := e4
    obtain rfl := row195 u e2
    have h0 : W.cell? ⟨0, 0, none⟩ = some (.iface 195 v) := by
      rw [hc, ← Array.getElem?_toList, e1]; rfl
    rcases DataW.trod_pointer Tryz.underlying195 e3 with ⟨_, e⟩ | ⟨a, cs', z, m, rfl, k1, k2, k3, k4⟩
    · rw [e] at e5; simp at e5
    · have hpl : MemPlace.cell a.block a.off ∈ ps := h5 _ (by
        rw [e6, k2, c197]
        exact List.mem_append_left _ (by simp [MemPlace.row]))
      obtain ⟨⟨ca, ta, hr⟩, _⟩ := hrows a.block a.off hpl
      have hsz : 0 < cs.size := by
        have h9 := congrArg List.length e1
        rw [Array.length_toList] at h9
        rw [h9]; exact Nat.zero_lt_one
      have hp0 : MemPlace.cell 0 0 ∈ ps := h50 _ (List.mem_map.2 ⟨0, List.mem_range.2 hsz, rfl⟩)
      have hok := (hrows 0 0 hp0).2 195 v h0
      have hsh := WideShapes.okWide_pointer (P := Tryz.prog) (w := W) (r := .any) (base := 0) (t := 195) (v := v) Tryz.underlying195 hok
      obtain ⟨a', rfl⟩ := hsh
      have : a' = some a := by simpa [Value.cells] using k1
      subst this
      exact ⟨a, h0, ca, ta, hr⟩

theorem gGra : Tryz.prog.globalNamed "strconv.isGraphic" = some 14 := by kernel_rfl
theorem size_of {W : World} {l : List (String × DataW Unit)} (h : laidMet Tryz.prog l W) (hm : ("strconv.isGraphic", Rows.laid_strconv_isGraphic) ∈ l) : 15 ≤ W.heap.size := by
  obtain ⟨g, t, cs, fuel, p, h1, h2, h3, h4⟩ := Lib.laidMet.reads h hm
  obtain rfl := Option.some.inj (gGra.symm.trans h1)
  unfold World.var? at h3
  rw [gGra] at h3
  cases hc : W.heap[14]? with
  | none => simp [hc] at h3
  | some o => have := (Array.getElem?_eq_some_iff.1 hc).1; omega

set_option maxRecDepth 100000 in
/-- The globals but ErrValueOutOfRange, out of the row's condition. -/
theorem gv_of_laid {W : World} {l : List (String × DataW Unit)} (h : laidMet Tryz.prog l W)
    (hf : ("unicode/utf8.first", Rows.laid_unicode_utf8_first) ∈ l) (ha : ("unicode/utf8.acceptRanges", Rows.laid_unicode_utf8_acceptRanges) ∈ l)
    (hp : ("internal/strconv.uint64pow10", Rows.laid_internal_strconv_uint64pow10) ∈ l) (ht : ("internal/strconv.pow10Tab", Rows.laid_internal_strconv_pow10Tab) ∈ l)
    (hg : ("strconv.isGraphic", Rows.laid_strconv_isGraphic) ∈ l) (ea : Addr) : Gv W.heap.size ea W := by
  have hsz := size_of h hg
  have hu := utf8_of h hf ha
  have hpw := pow_of h hp
  have hten := fun i hi => ten_of h ht i hi
  exact ⟨hsz, Nat.le_refl _, hu, hpw, hten⟩
set_option maxRecDepth 100000 in
/-- THE GLOBALS, out of the row's condition. -/
theorem gl_of_laid {W : World} {l : List (String × DataW Unit)} (h : laidMet Tryz.prog l W)
    (hf : ("unicode/utf8.first", Rows.laid_unicode_utf8_first) ∈ l) (ha : ("unicode/utf8.acceptRanges", Rows.laid_unicode_utf8_acceptRanges) ∈ l)
    (hp : ("internal/strconv.uint64pow10", Rows.laid_internal_strconv_uint64pow10) ∈ l) (ht : ("internal/strconv.pow10Tab", Rows.laid_internal_strconv_pow10Tab) ∈ l)
    (he : ("pub-teleprinter/pub/lineprotocol/lineprotocol.ErrValueOutOfRange", Rows.laid_pub_teleprinter_pub_lineprotocol_lineprotocol_ErrValueOutOfRange) ∈ l) (hg : ("strconv.isGraphic", Rows.laid_strconv_isGraphic) ∈ l) : ∃ ea, Gl W.heap.size ea W := by
  obtain ⟨ea, h0, hr⟩ := err_of h he
  obtain ⟨ca, ta, hr'⟩ := id hr
  have hsz := size_of h hg
  have hu := utf8_of h hf ha
  have hpw := pow_of h hp
  have hbl := (Array.getElem?_eq_some_iff.1 hr').1
  have hten := fun i hi => ten_of h ht i hi
  clear hf ha hp ht he hg h
  exact ⟨ea, ⟨hsz, Nat.le_refl _, hu, hpw, hten⟩, hbl, h0, hr⟩
end Go.Proofs.YtaaogjhaokaggaaGreatDoor
