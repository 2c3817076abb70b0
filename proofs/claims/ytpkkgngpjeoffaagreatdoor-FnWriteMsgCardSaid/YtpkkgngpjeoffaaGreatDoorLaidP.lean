/- PROVED HERE: the package-level variables that the rows list, out of the row's condition: those of Gp. CONDITIONS: that the row lists them. -/
import Derived.Test.YtpkkgngpjeoffaaGreatDoorLaid
import Derived.Test.YtpkkgngpjeoffaaGreatDoorGlP
namespace Go.Proofs.YtpkkgngpjeoffaaGreatDoor
open Go.RowKit Go.Lib

theorem gTen : Tryz.prog.globalNamed "internal/strconv.pow10Tab" = some 13 := by kernel_rfl
theorem tTen : (Tryz.prog.globals[13]?).map (·.type) = some 329 := by kernel_rfl
theorem c328 : Tryz.prog.cellsOf 328 = 2 := by kernel_rfl
theorem ten_of {W : World} {l : List (String × DataW Unit)} (h : laidMet Tryz.prog l W) (hm : ("internal/strconv.pow10Tab", Rows.laid_internal_strconv_pow10Tab) ∈ l) (i : Nat) (hi : i < 696) :
    W.cell? ⟨13, 2 * i, none⟩ = some (.int .u64 (p10 i).1) ∧ W.cell? ⟨13, 2 * i + 1, none⟩ = some (.int .u64 (p10 i).2) := by
  obtain ⟨g, t, cs, fuel, p, h1, h2, h3, h4⟩ := Lib.laidMet.reads h hm
  obtain rfl := Option.some.inj (gTen.symm.trans h1)
  obtain rfl := Option.some.inj (tTen.symm.trans h2)
  have hv := World.var?_cell h1 h3
  obtain ⟨xs, m, rfl, hx, hl, hn, hel⟩ := DataW.trod_array Tryz.underlying329 h4
  have hd : xs.map (·.1) = Go.Pinned.pow10Rows.map fun x => (DataW.agg [.lit (.int .u64 x.1), .lit (.int .u64 x.2)] : DataW Unit) := by
    have := congrArg Prod.fst hx
    simp only [Rows.laid_internal_strconv_pow10Tab, Go.Pinned.pow10Tab, DataW.agg.injEq] at this
    exact this.symm
  have hi2 := hel i hi
  rw [c328] at hi2
  have hxi : i < xs.length := by omega
  have hri : i < Go.Pinned.pow10Rows.length := by
    have := congrArg List.length hd
    simp only [List.length_map] at this
    omega
  have hp : p10 i = Go.Pinned.pow10Rows[i] := by simp [p10, hri]
  have hd2 := congrArg (fun x => x[i]?) hd
  simp only [List.getElem?_map, List.getElem?_eq_getElem hxi, List.getElem?_eq_getElem hri, Option.map_some, Option.some.injEq] at hd2
  rw [List.getElem?_eq_getElem hxi] at hi2
  obtain ⟨ys, m2, rfl, hy, hl2, hn2, hf⟩ := DataW.trod_struct Tryz.underlying328 hi2
  rw [c328] at hl2
  have hf0 : DataW.trod (fun _ => ()) Tryz.prog W 0 (fun _ => true) false m2 29 ((((cs.toList.drop (i * 2)).take 2).drop 0).take (Tryz.prog.cellsOf 29)) = ys[0]? := hf 0 _ rfl
  have hf1 : DataW.trod (fun _ => ()) Tryz.prog W 0 (fun _ => true) false m2 29 ((((cs.toList.drop (i * 2)).take 2).drop 1).take (Tryz.prog.cellsOf 29)) = ys[1]? := hf 1 _ rfl
  rw [c29] at hf0 hf1
  have hy1 := congrArg Prod.fst hy
  rw [hd2] at hy1
  simp only [DataW.agg.injEq] at hy1
  match ys, hn2, hy1, hf0, hf1 with
  | [y0, y1], _, hy1, hf0, hf1 =>
    simp only [List.map_cons, List.map_nil, List.cons.injEq, and_true] at hy1
    obtain ⟨n0, e0, e0', _⟩ := DataW.trod_int Tryz.underlying29 (show DataW.trod _ Tryz.prog W 0 _ false m2 29 _ = some y0 from hf0)
    obtain ⟨n1, e1, e1', _⟩ := DataW.trod_int Tryz.underlying29 (show DataW.trod _ Tryz.prog W 0 _ false m2 29 _ = some y1 from hf1)
    rw [e0', e1'] at hy1
    simp only [DataW.lit.injEq, Lit.int.injEq, true_and] at hy1
    obtain ⟨r0, r1⟩ := hy1
    rw [hp, r0, r1]
    have q0 := congrArg (fun x => x[0]?) e0
    have q1 := congrArg (fun x => x[0]?) e1
    simp [List.getElem?_drop] at q0 q1
    rw [hv, hv]
    refine ⟨?_, ?_⟩
    · rw [Nat.mul_comm]; exact q0
    · rw [Nat.mul_comm]; exact q1


set_option maxRecDepth 100000 in
/-- THE GLOBALS, out of the row's condition. -/
theorem gp_of_laid {W : World} {l : List (String × DataW Unit)} (h : laidMet Tryz.prog l W)
    (hp : ("internal/strconv.uint64pow10", Rows.laid_internal_strconv_uint64pow10) ∈ l) (he : ("io.EOF", Rows.laid_io_EOF) ∈ l) (hg : ("math/bits.deBruijn64tab", Rows.laid_math_bits_deBruijn64tab) ∈ l) (ht : ("internal/strconv.pow10Tab", Rows.laid_internal_strconv_pow10Tab) ∈ l) : ∃ ea, Gp W.heap.size ea W := by
  obtain ⟨ea, hG⟩ := gv_of_laid h hp he hg
  have hsz := size_of h hg
  have hten := fun i hi => ten_of h ht i hi
  clear hp he hg ht h
  exact ⟨ea, { hG with low2 := hsz, p10 := hten }⟩
end Go.Proofs.YtpkkgngpjeoffaaGreatDoor
