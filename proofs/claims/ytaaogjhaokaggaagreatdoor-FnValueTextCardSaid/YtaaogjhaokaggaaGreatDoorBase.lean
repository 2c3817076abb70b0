import Derived.WalkKit
import Derived.WalkLawsBesides
import Derived.WalkSpells
import Derived.Deep.AppendSrc
import Derived.Laws.IdiomStrings
import Derived.Lib.Hide
namespace Go.Proofs.YtaaogjhaokaggaaGreatDoor
open Go.RowKit

/-- The world w' is w with new blocks, and with writes to the blocks of S alone. -/
structure Fr (S : List Nat) (w w' : World) : Prop where
  os : w'.os = w.os
  tape : w'.tape = w.tape
  output : w'.output = w.output
  size : w.heap.size ≤ w'.heap.size
  block : ∀ k, k < w.heap.size → k ∉ S → w'.heap[k]? = w.heap[k]?

theorem Fr.refl (S : List Nat) (w : World) : Fr S w w := ⟨rfl, rfl, rfl, Nat.le_refl _, fun _ _ _ => rfl⟩
theorem Fr.trans {S : List Nat} {a b c : World} (h : Fr S a b) (k : Fr S b c) : Fr S a c :=
  ⟨k.os.trans h.os, k.tape.trans h.tape, k.output.trans h.output, Nat.le_trans h.size k.size, fun i hi hs => (k.block i (Nat.lt_of_lt_of_le hi h.size) hs).trans (h.block i hi hs)⟩
/-- Two steps; the second may write new blocks of the first. -/
theorem Fr.step {S T : List Nat} {a b c : World} (h : Fr S a b) (k : Fr T b c) (hT : ∀ t, t ∈ T → t ∈ S ∨ a.heap.size ≤ t) : Fr S a c :=
  ⟨k.os.trans h.os, k.tape.trans h.tape, k.output.trans h.output, Nat.le_trans h.size k.size,
   fun i hi hs => (k.block i (Nat.lt_of_lt_of_le hi h.size) (fun ht => by rcases hT i ht with h1 | h1; exact hs h1; omega)).trans (h.block i hi hs)⟩
theorem Fr.sub {S T : List Nat} {a b : World} (h : Fr S a b) (hS : ∀ s, s ∈ S → s ∈ T ∨ a.heap.size ≤ s) : Fr T a b :=
  ⟨h.os, h.tape, h.output, h.size, fun i hi hs => h.block i hi (fun ht => by rcases hS i ht with h1 | h1; exact hs h1; omega)⟩
theorem Fr.drew {S : List Nat} {a w : World} (h : Fr S a w) : Fr S a w.drew := ⟨h.os, h.tape, h.output, h.size, h.block⟩
theorem Fr.alloc {S : List Nat} {a w : World} (h : Fr S a w) (o : Obj) : Fr S a (w.alloc o) :=
  h.trans ⟨rfl, rfl, rfl, by simp, fun k hk _ => Below.heap_alloc _ _ _ hk⟩
theorem Fr.setCell {S : List Nat} {a w : World} (h : Fr S a w) {p : Addr} (hp : p.block ∈ S ∨ a.heap.size ≤ p.block) (u : Value) : Fr S a (w.setCell p u) :=
  h.step (T := [p.block]) ⟨rfl, rfl, rfl, by simp [World.setCell], fun k _ hs => Below.heap_setCell _ _ _ _ (by simpa using hs)⟩ (fun t ht => by simp at ht; subst ht; exact hp)
theorem Fr.grown {S : List Nat} {a w w' : World} {row : Option Nat} (h : Fr S a w) (hg : w.grownBy w' row) (hr : ∀ k, row = some k → k ∈ S ∨ a.heap.size ≤ k) : Fr S a w' :=
  h.step (T := row.toList) ⟨hg.os, hg.tape, hg.output, hg.size, fun k hk hs => hg.block k hk (fun e => hs (by rw [← e]; simp))⟩ (fun t ht => hr t (by cases row <;> simp_all))
theorem Fr.of_below {w w' : World} (h : Below w.heap.size w w') : Fr [] w w' := ⟨h.os, h.tape, h.output, h.size, fun k hk _ => h.block k hk⟩
theorem Fr.below {S : List Nat} {w w' : World} {B : Nat} (h : Fr S w w') (hB : B ≤ w.heap.size) (hS : ∀ s, s ∈ S → B ≤ s) : Below B w w' :=
  ⟨h.os, h.tape, h.output, h.size, fun k hk => h.block k (by omega) (fun hs => by have := hS k hs; omega)⟩
theorem Fr.cell {S : List Nat} {w w' : World} (h : Fr S w w') {p : Addr} {v : Value} (hc : w.cell? p = some v) (hs : p.block ∉ S) : w'.cell? p = some v :=
  (World.cell?_of_block (h.block p.block (World.block_lt_of_cell? w p hc) hs)).trans hc
theorem Fr.cellEq {S : List Nat} {w w' : World} (h : Fr S w w') {p : Addr} (hp : p.block < w.heap.size) (hs : p.block ∉ S) : w'.cell? p = w.cell? p :=
  World.cell?_of_block (h.block p.block hp hs)
theorem Fr.frozenEq {S : List Nat} {w w' : World} (h : Fr S w w') {p : Addr} (hp : p.block < w.heap.size) (hs : p.block ∉ S) : w'.frozen? p = w.frozen? p :=
  World.frozen?_of_block (h.block p.block hp hs)
/-- A whole block stays. -/
theorem Fr.blk {S : List Nat} {w w' : World} (h : Fr S w w') {g : Nat} {o : Obj} (hg : w.heap[g]? = some o) (hs : g ∉ S) : w'.heap[g]? = some o :=
  (h.block g (Array.getElem?_eq_some_iff.1 hg).1 hs).trans hg

theorem ret_int {k : IntKind} {a b : Int} (h : a = b) : Ending.returned (.int k a) = .returned (.int k b) := by rw [h]
theorem ret_bool {a b : Bool} (h : a = b) : Ending.returned (.bool a) = .returned (.bool b) := by rw [h]
theorem ret_val {a b : Value} (h : a = b) : Ending.returned a = .returned b := by rw [h]

/-- A byte as a cell. -/
def bv (b : UInt8) : Value := .int .u8 (b.toNat : Int)
def bvs (l : List UInt8) : List Value := l.map bv
theorem bvs_length (l : List UInt8) : (bvs l).length = l.length := by simp [bvs]
theorem bvs_append (l m : List UInt8) : bvs (l ++ m) = bvs l ++ bvs m := by simp [bvs]
theorem bvs_one (l : List UInt8) : ∀ u ∈ bvs l, u.oneCell' = true := by
  intro u hu
  obtain ⟨_, _, rfl⟩ := List.mem_map.1 hu
  rfl
theorem bvs_at {l : List UInt8} {j : Nat} (h : j < l.length) : (bvs l)[j]? = some (bv l[j]) := by simp [bvs, h]

/-- Block g is a row of bytes with room for cap; its first bytes are l; none of its cells is frozen. -/
def Row (w : World) (e : TypeId) (g cap : Nat) (l : List UInt8) : Prop :=
  ∃ cur fr, w.heap[g]? = some (.cells cur e fr) ∧ (∀ j, j < cur.size → ¬ (fr.1 ≤ j ∧ j < fr.2)) ∧ cap ≤ cur.size ∧ l.length ≤ cap ∧ cap ≤ maxLen ∧ cur.toList.take l.length = bvs l

/-- The slice value v begins at the head of a row of bytes (or is nil) and holds l. -/
def Own (w : World) (e : TypeId) (v : Value) (l : List UInt8) : Prop :=
  (v = .slice none 0 0 ∧ l = []) ∨ ∃ g cap, v = .slice (some ⟨g, 0, none⟩) l.length cap ∧ Row w e g cap l

theorem Own.nil (w : World) (e : TypeId) : Own w e (.slice none 0 0) [] := .inl ⟨rfl, rfl⟩

theorem Row.fr {S : List Nat} {w w' : World} {e : TypeId} {g cap : Nat} {l : List UInt8} (h : Row w e g cap l) (f : Fr S w w') (hs : g ∉ S) : Row w' e g cap l := by
  obtain ⟨cur, fr, h1, h2⟩ := h
  exact ⟨cur, fr, f.blk h1 hs, h2⟩

theorem Own.fr {S : List Nat} {w w' : World} {e : TypeId} {v : Value} {l : List UInt8} (h : Own w e v l) (f : Fr S w w') (hs : ∀ g, v.ownBlock = some g → g ∉ S) : Own w' e v l := by
  rcases h with h | ⟨g, cap, rfl, h⟩
  · exact .inl h
  · exact .inr ⟨g, cap, rfl, h.fr f (hs g rfl)⟩

theorem Row.lt {w : World} {e : TypeId} {g cap : Nat} {l : List UInt8} (h : Row w e g cap l) : g < w.heap.size := by
  obtain ⟨cur, fr, h1, _⟩ := h
  exact (Array.getElem?_eq_some_iff.1 h1).1
theorem Own.lt {w : World} {e : TypeId} {v : Value} {l : List UInt8} (h : Own w e v l) : ∀ g, v.ownBlock = some g → g < w.heap.size := by
  intro k hk
  rcases h with ⟨rfl, _⟩ | ⟨g, cap, rfl, h⟩
  · simp [Value.ownBlock] at hk
  · simp [Value.ownBlock] at hk; subst hk; exact h.lt

theorem Row.cell {w : World} {e : TypeId} {g cap : Nat} {l : List UInt8} (h : Row w e g cap l) {j : Nat} (hj : j < l.length) : w.cell? ⟨g, j, none⟩ = some (bv l[j]) := by
  obtain ⟨cur, fr, h1, _, _, _, _, h6⟩ := h
  rw [cell_of_row w g j cur e fr h1]
  have h7 := congrArg (fun x => x[j]?) h6
  simp only [List.getElem?_take, if_pos hj, bvs_at hj] at h7
  simpa using h7
theorem Row.free {w : World} {e : TypeId} {g cap : Nat} {l : List UInt8} (h : Row w e g cap l) {j : Nat} (hj : j < cap) : (w.cell? ⟨g, j, none⟩).isSome = true ∧ w.frozen? ⟨g, j, none⟩ = false := by
  obtain ⟨cur, fr, h1, h2, h3, _⟩ := h
  refine ⟨?_, ?_⟩
  · rw [cell_of_row w g j cur e fr h1]
    simp [show j < cur.size by omega]
  · have := h2 j (by omega)
    simp only [World.frozen?, h1]
    cases fr
    simp only at this ⊢
    simp only [Bool.and_eq_false_iff, decide_eq_false_iff_not]
    omega

/-- Cells written one behind the other into a row. -/
theorem setCells_row (g : Nat) (e : TypeId) : ∀ (vs : List Value) (o : Nat) (cur : Array Value) (w : World) (fr : Nat × Nat), w.heap[g]? = some (.cells cur e fr) → o + vs.length ≤ cur.size →
    ∃ cur' : Array Value, (w.setCells g o vs).heap[g]? = some (.cells cur' e fr) ∧ cur'.size = cur.size ∧ ∀ i, cur'[i]? = if i < o then cur[i]? else if i < o + vs.length then vs[i - o]? else cur[i]?
  | [], o, cur, w, fr, h, _ => ⟨cur, h, rfl, fun i => by simp only [List.length_nil, Nat.add_zero]; split <;> simp⟩
  | v :: r, o, cur, w, fr, h, hl => by
    simp only [List.length_cons] at hl
    have h' : (w.setCell ⟨g, o, none⟩ v).heap[g]? = some (.cells (cur.setIfInBounds o v) e fr) := by
      rw [setCell_eq_setRow w g o cur e fr v h]
      exact setRow_heap w g cur _ e fr h
    obtain ⟨c', h1, h2, h3⟩ := setCells_row g e r (o + 1) (cur.setIfInBounds o v) (w.setCell ⟨g, o, none⟩ v) fr h' (by simp; omega)
    refine ⟨c', h1, by simpa using h2, fun i => ?_⟩
    rw [h3 i]
    simp only [List.length_cons, Array.getElem?_setIfInBounds]
    by_cases a1 : i < o
    · rw [if_pos (by omega), if_neg (by omega), if_pos a1]
    · by_cases a2 : i = o
      · subst a2
        rw [if_pos (by omega), if_pos rfl, if_pos (by omega), if_neg a1, if_pos (by omega)]
        simp
      · rw [if_neg (show ¬ i < o + 1 by omega), if_neg a1]
        by_cases a3 : i < o + (r.length + 1)
        · rw [if_pos (show i < o + 1 + r.length by omega), if_pos a3, show i - o = (i - (o + 1)) + 1 by omega, List.getElem?_cons_succ]
        · rw [if_neg (show ¬ i < o + 1 + r.length by omega), if_neg a3, if_neg (show ¬ o = i by omega)]

theorem setCells_fr (g : Nat) (w : World) (o : Nat) (vs : List Value) : Fr [g] w (w.setCells g o vs) := by
  induction vs generalizing w o with
  | nil => exact Fr.refl _ _
  | cons v r ih => exact ((Fr.refl [g] w).setCell (p := ⟨g, o, none⟩) (by simp) v).trans (ih _ _)

theorem take_bvs {cur : Array Value} {l : List UInt8} {n : Nat} (h : ∀ i, i < n → cur[i]? = (bvs l)[i]?) (hn : l.length = n) (hc : n ≤ cur.size) : cur.toList.take l.length = bvs l := by
  subst hn
  apply List.ext_getElem?
  intro i
  rw [List.getElem?_take]
  by_cases hi : i < l.length
  · rw [if_pos hi, ← h i hi]; simp
  · rw [if_neg hi]
    simp [bvs, Nat.le_of_not_lt hi]

section
variable {P : Program}
theorem Own.first {w : World} {e : TypeId} {v : Value} {l : List UInt8} (h : Own w e v l) : ∃ b n c, v = .slice b n c ∧ n = l.length ∧ l.length ≤ c ∧ (Builtin.firstCells 1 l.length v).run P w = .ok (bvs l).toArray w := by
  rcases h with ⟨rfl, rfl⟩ | ⟨g, cap, rfl, hr⟩
  · exact ⟨none, 0, 0, rfl, rfl, Nat.le_refl _, by simp [Builtin.firstCells, bvs]⟩
  · refine ⟨_, _, _, rfl, rfl, by obtain ⟨_, _, _, _, _, h, _⟩ := hr; exact h, ?_⟩
    have := run_firstCells_some (P := P) w 1 l.length ⟨g, 0, none⟩ l.length cap (bvs l) (by simp [bvs]) (fun j u hu => by
      have hj : j < l.length := by
        have := (List.getElem?_eq_some_iff.1 hu).1
        simpa [bvs] using this
      have hadd : (⟨g, 0, none⟩ : Addr).add j = ⟨g, j, none⟩ := by unfold Addr.add; split <;> simp_all
      rw [hadd, hr.cell hj, ← hu, bvs_at hj])
    exact this

/-- append onto an owned row of bytes, of whatever source of bytes. -/
theorem run_append_b (w : World) (t tx ty e : TypeId) (i : TypeInfo) (z : Value) (ht : P.underlying t = some (.slice e)) (hi : P.info? e = some i) (hz : i.zero = some z) (hs1 : i.size = 1) (hb1 : i.bytes = 1) (hz1 : z.cells.size = 1)
    (v : Value) (l m : List UInt8) (x : Value) (hown : Own w e v l) (hs : Src P 1 tx x m.length (bvs m) w) (hlen : l.length + m.length ≤ 70368744177664) :
    ∃ v' w', (Builtin.append_ #[t, tx] ty #[v, x]).run P w = .ok v' w' ∧ Own w' e v' (l ++ m) ∧ Fr v.ownBlock.toList w w' ∧ (v'.ownBlock = v.ownBlock ∨ v'.ownBlock = some w.heap.size) := by
  obtain ⟨bs, n, c, hv, hn, hc, hf⟩ := Own.first (P := P) hown
  subst hn
  by_cases hroom : l.length + m.length ≤ c
  · -- there is room
    rcases hown with ⟨rfl, rfl⟩ | ⟨g, cap, rfl, cur, fr, h1, h2, h3, h4, h5, h6⟩
    · cases hv
      have hm : m = [] := List.eq_nil_of_length_eq_zero (by simp only [List.length_nil] at hroom; omega)
      subst hm
      have hs2 := hs.cells
      simp only [List.length_nil] at hs2
      refine ⟨.slice none 0 0, w, ?_, Own.nil _ _, Fr.refl _ _, .inl rfl⟩
      rcases hs.kind with ⟨e', hk⟩ | hk <;> simp [Builtin.append_, run_underlying ht, run_underlying hk, sizeOf, typeInfo, hi, hs.len, hs1, hs2]
    · cases hv
      have hfree := fun j (hj : j < c) => (show Row w e g c l from ⟨cur, fr, h1, h2, h3, h4, h5, h6⟩).free hj
      have hr := run_append_room_src (P := P) w t tx ty e i ht hi g 0 l.length c x m.length (bvs m) (by rw [hs1]; exact hs) hroom
        (fun j hj => by rw [bvs_length] at hj; rw [hs1]; exact (hfree (0 + l.length * 1 + j) (by omega)).1)
        (fun j hj => by rw [bvs_length] at hj; rw [hs1]; exact (hfree (0 + l.length * 1 + j) (by omega)).2)
      rw [hs1] at hr
      simp only [Nat.zero_add, Nat.mul_one] at hr
      have hfr := setCells_fr g w l.length (bvs m)
      obtain ⟨cur', k1, k2, k3⟩ := setCells_row g e (bvs m) l.length cur w fr h1 (by rw [bvs_length]; omega)
      generalize w.setCells g l.length (bvs m) = w1 at hr hfr k1
      refine ⟨.slice (some ⟨g, 0, none⟩) (l.length + m.length) c, w1, hr, .inr ⟨g, c, by simp, ?_⟩, hfr, .inl rfl⟩
      refine ⟨cur', fr, k1, by rw [k2]; exact h2, by omega, by simpa using hroom, h5, ?_⟩
      refine take_bvs (n := l.length + m.length) (fun i hi => ?_) (by simp) (by omega)
      rw [k3 i, bvs_length, bvs_append, List.getElem?_append, bvs_length]
      by_cases a : i < l.length
      · rw [if_pos a, if_pos a]
        have h7 := congrArg (fun x => x[i]?) h6
        simp only [List.getElem?_take, if_pos a] at h7
        rw [← h7]; simp
      · rw [if_neg a, if_neg a, if_pos hi]
  · -- a new row
    have hgr := run_append_grow_src (P := P) w t tx ty e i z ht hi hz bs l.length c (bvs l) (by
        have h2 := Own.first (P := P) (show Own w.drew e v l from hown)
        obtain ⟨b2, n2, c2, hv2, _, _, hf2⟩ := h2
        rw [hs1, ← hv]
        exact hf2) x m.length (bvs m) (by rw [hs1]; exact hs) (by omega) (by omega) (growslice_fits (by omega) (by rw [hb1]; omega))
    rw [hv]
    refine ⟨_, _, hgr, .inr ⟨w.heap.size, grownCap w (l.length + m.length) c e, by simp, ?_⟩, ?_, .inr rfl⟩
    · refine ⟨_, (0, 0), heap_alloc_new w.drew _, fun j _ h => by omega, ?_, ?_, grownCap_le_maxLen w _ _ _ (by unfold maxLen; omega), ?_⟩
      · have := grownCap_ge w (l.length + m.length) c e
        simp [size_zeroCells, hz1, bvs]
        omega
      · have := grownCap_ge w (l.length + m.length) c e
        simp; omega
      · simp only [Array.toList_append, ← bvs_append]
        rw [← bvs_length (l ++ m)]
        exact List.take_left
    · exact ((Fr.refl _ w).drew).alloc _
end

end Go.Proofs.YtaaogjhaokaggaaGreatDoor
