/- PROVED HERE: a part of round r2's proofs (text SzT): lemmas and walks that later texts use. CONDITIONS: those written ahead of each theorem. -/
import Derived.Test.YtpkkgngpjeoffaaGreatDoorCpyT
import Derived.Test.YtpkkgngpjeoffaaGreatDoorStrP
import Derived.Lib.MinMax
import Derived.BigQuiet
import Derived.Handy
namespace Go.Proofs.YtpkkgngpjeoffaaGreatDoor
open Go.RowKit

/-- The sizes of the pieces: nil, or a row of whole numbers below B. -/
def SzS (w : World) (B : Nat) (sv : Value) (sz : List Int) : Prop :=
  ∃ a c, sv = .slice a sz.length c ∧ (sz ≠ [] → ∃ g off, a = some ⟨g, off, none⟩ ∧ g < B ∧ ∀ i (h : i < sz.length), w.cell? ⟨g, off + i, none⟩ = some (.int .i64 sz[i]))
theorem SzS.fr {w w' : World} {B : Nat} {sv : Value} {sz : List Int} {S : List Nat} (h : SzS w B sv sz) (f : Fr S w w') (hS : ∀ s, s ∈ S → B ≤ s) : SzS w' B sv sz := by
  obtain ⟨a, c, e, h⟩ := h
  refine ⟨a, c, e, fun hn => ?_⟩
  obtain ⟨g, off, ha, hg, hc⟩ := h hn
  exact ⟨g, off, ha, hg, fun i hi => f.cell (hc i hi) (fun hm => by have := hS g hm; omega)⟩
theorem szAt_get {sz : List Int} (hn : sz ≠ []) (a : Nat) : ∃ h : a % sz.length < sz.length, sz[a % sz.length] = szAt sz a := by
  have hl := List.length_pos_iff.2 hn
  refine ⟨Nat.mod_lt _ hl, ?_⟩
  unfold szAt
  rw [List.getElem?_eq_getElem (Nat.mod_lt _ hl)]
  rfl
/-- What the reader gives at its next reading. -/
def stepN (sz : List Int) (a : Nat) : Nat := if sz = [] then 1024 else min 1024 (szAt sz a).toNat
def nextA (sz : List Int) (a : Nat) : Nat := if sz = [] then a else a + 1
def RdQ (w : World) (r g cap : Nat) (sv : Value) (sz : List Int) (a : Nat) (l : List UInt8) (e : Ending) (w' : World) : Prop :=
  ∃ S' : ByteArray, e = .returned (.tuple #[.int .i64 (l.take (stepN sz a)).length, .nilIface]) ∧ S'.data.toList = l.drop (stepN sz a) ∧
    Fr [r, g] w w' ∧ w'.heap[r]? = some (.cells #[.string S', sv, .int .i64 (nextA sz a), .bool false] 82 (0, 0)) ∧
    Own w' 5 (.slice (some ⟨g, 0, none⟩) (l.take (stepN sz a)).length cap) (l.take (stepN sz a))
set_option maxRecDepth 100000 in
theorem read_eof {B : Nat} {ea : Addr} (r : Nat) (S : ByteArray) (sv bufv : Value) (a : Int) (w : World) (hG : Gv B ea w) (hr : w.heap[r]? = some (.cells #[.string S, sv, .int .i64 a, .bool false] 82 (0, 0))) (hS : S.data.toList = []) :
    Calls Tryz.prog 200 #[.pointer (some ⟨r, 0, none⟩), bufv] w fun e w' => e = .returned (.tuple #[.int .i64 0, .iface 199 (.pointer (some ea))]) ∧ Fr [] w w' := by
  have c0 := cell_of_row w r 0 _ 82 _ hr
  have c3 := cell_of_row w r 3 _ 82 _ hr
  have hz : S.size = 0 := by rw [Lib.size_eq, hS]; rfl
  have he := hG.err
  clear hr hG
  go_enter Tryz.func200, Tryz.ntmps200
  go_wp2_with fail
  go_quiet (fail)
  go_wp2_with fail
  go_ret2
  exact ⟨rfl, (Fr.refl [] w).drewN _⟩
theorem drop_take_len (l : List UInt8) (n : Nat) : l.drop (l.take n).length = l.drop n := by
  rw [List.length_take]
  by_cases h : n ≤ l.length
  · rw [Nat.min_eq_left h]
  · rw [Nat.min_eq_right (by omega), List.drop_length, List.drop_eq_nil_of_le (by omega)]
theorem ext_list {S : ByteArray} {l : List UInt8} (m : Nat) (hS : S.data.toList = l) : (S.extract m l.length).data.toList = l.drop m := by
  rw [ByteArray.data_extract, Array.toList_extract, List.extract_eq_take_drop, hS]
  rw [List.take_of_length_le (by rw [List.length_drop]; omega)]
theorem rd_end {w w1 : World} {r g cap n m a : Nat} {S : ByteArray} {sv : Value} {sz : List Int} {l : List UInt8} {x y : Value} (hrg : r ≠ g) (hr : w1.heap[r]? = some (.cells #[.string S, sv, .int .i64 (nextA sz a), .bool false] 82 (0, 0)))
    (hf : Fr [r, g] w w1) (ho : Own w1 5 (.slice (some ⟨g, 0, none⟩) m cap) (l.take n)) (hm : m = (l.take n).length) (hS : S.data.toList = l) (ht : l.take n = l.take (stepN sz a)) (hx : x = .int .i64 m) (hy : y = .nilIface) :
    RdQ w r g cap sv sz a l (.returned (.tuple #[x, y])) (w1.setCell ⟨r, 0, none⟩ (.string (S.extract m l.length))) := by
  subst hx hy
  refine ⟨S.extract m l.length, ?_, ?_, hf.setCell (.inl (by simp)) _, ?_, ?_⟩
  · rw [← ht, ← hm]
  · rw [ext_list m hS, hm, ht, drop_take_len]
  · have := heap_setCell_same w1 r 0 _ 82 (.string (S.extract m l.length)) hr
    simpa using this
  · rw [← ht, ← hm]
    exact ho.fr ((Fr.refl [r] w1).setCell (.inl (by simp)) _) (fun k hk => by simp [Value.ownBlock] at hk; subst hk; simp; exact fun e => hrg e.symm)
set_option maxRecDepth 100000 in
set_option maxHeartbeats 1000000 in
/-- A reader without sizes. -/
theorem read_whole (r g cap : Nat) (S : ByteArray) (a : Nat) (w : World) (l : List UInt8) (hr : w.heap[r]? = some (.cells #[.string S, .slice none 0 0, .int .i64 a, .bool false] 82 (0, 0))) (hS : S.data.toList = l) (hl : l ≠ []) (hlen : l.length ≤ 1000000)
    (hO : Own w 5 (.slice (some ⟨g, 0, none⟩) 0 cap) []) (hcap : 1024 ≤ cap) :
    Calls Tryz.prog 200 #[.pointer (some ⟨r, 0, none⟩), .slice (some ⟨g, 0, none⟩) 1024 cap] w (RdQ w r g cap (.slice none 0 0) [] a l) := by
  have c0 := cell_of_row w r 0 _ 82 _ hr
  have c1 := cell_of_row w r 1 _ 82 _ hr
  have c2 := cell_of_row w r 2 _ 82 _ hr
  have c3 := cell_of_row w r 3 _ 82 _ hr
  have f0 := frozen_of_row w r 0 _ 82 hr
  have hz : S.size = l.length := by rw [Lib.size_eq, hS]
  have hl1 : 1 ≤ l.length := List.length_pos_iff.2 hl
  have i1 : ¬ (S.size : Int) = 0 := by omega
  have i2 : (S.size : Int) ≤ 1000000 := by omega
  have HS := Lib.hid hS
  have HL := Lib.hid hl
  have HO := Lib.hid hO
  have HR := Lib.hid hr
  have HZ := Lib.hid hz
  clear hr hS hl hO
  obtain ⟨n, hn⟩ : ∃ n, n = min l.length 1024 := ⟨_, rfl⟩
  have hmn : min (l.length : Int) 1024 = (n : Int) := by omega
  have hmn2 : min (S.size : Int) 1024 = (n : Int) := by rw [HZ.out]; exact hmn
  have hn1 : n ≤ 1024 := by omega
  have hn2 : n ≤ cap := by omega
  have htk : l.take 1024 = l.take n := by rw [List.take_eq_take_iff]; omega
  have HTK := Lib.hid htk
  obtain ⟨m, hm⟩ : ∃ m, m = (l.take n).length := ⟨_, rfl⟩
  have hm1 : (m : Int) ≤ l.length := by rw [hm, List.length_take]; omega
  have hm2 : m ≤ S.size := by rw [HZ.out, hm, List.length_take]; omega
  have hrg : r ≠ g := by
    obtain ⟨c, x, h⟩ := own_tag HO.out (g := g) rfl
    exact ne_tag HR.out h (by decide)
  have HM := Lib.hid hm
  clear hn htk hm
  go_enter Tryz.func200, Tryz.ntmps200
  go_wp2_with fail
  go_cut [6] from 6 to 83 (fun x6 wx => x6 = .int .i64 m ∧ Hid (Fr [g] w wx ∧ Own wx 5 (.slice (some ⟨g, 0, none⟩) m cap) (l.take n)))
  case first =>
    go_region_law (refine stepCopyS w.drew (by rfl) _ _ (by rfl) g cap n cap S (by rfl) (by rfl) (show Own w.drew 5 _ [] from HO.out) hn2 ?_; intro w1 hf1 ho1; rw [HS.out, ← HM.out] at ho1 ⊢; have HC1 := Lib.hid (And.intro ((Fr.refl [g] w).drew.trans hf1) ho1); clear hf1 ho1)
    all_goals
      go_wp2_with fail
      go_meet
      exact ⟨rfl, HC1⟩
  obtain ⟨rfl, HC1⟩ := hcut
  obtain ⟨w1, hw1⟩ : ∃ x, x = wc := ⟨_, rfl⟩
  subst hw1
  have hr1 := HC1.out.1.blk HR.out (by simp; exact hrg)
  have HR1 := Lib.hid hr1
  have c0 := cell_of_row w1 r 0 _ 82 _ hr1
  have f0 := frozen_of_row w1 r 0 _ 82 hr1
  clear hr1
  go_wp2_with fail
  go_ret2
  exact rd_end (sz := []) hrg HR1.out (HC1.out.1.sub (by simp)) HC1.out.2 HM.out HS.out HTK.out.symm rfl rfl
end Go.Proofs.YtpkkgngpjeoffaaGreatDoor
