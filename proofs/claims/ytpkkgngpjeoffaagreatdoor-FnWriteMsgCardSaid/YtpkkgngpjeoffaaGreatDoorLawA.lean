/- PROVED HERE: a part of round r2's proofs (text LawA): lemmas and walks that later texts use. CONDITIONS: those written ahead of each theorem. -/
import Derived.Test.YtpkkgngpjeoffaaGreatDoorProg
import Derived.WalkKit
import Derived.WalkLawsBesides
import Derived.WalkSpells
import Derived.Deep.AppendSrc
import Derived.Laws.IdiomStrings
import Derived.Lib.Hide
import Derived.Laws.CopyOwn
import Derived.Deep.DeepCutAuto
import Derived.Outline
namespace Go.Proofs.YtpkkgngpjeoffaaGreatDoor
open Go.RowKit

/-- The world w' is w with new blocks, and with writes to the blocks of S alone. -/
structure Fr (S : List Nat) (w w' : World) : Prop where
  os : w'.os = w.os
  tape : w'.tape = w.tape
  output : w'.output = w.output
  size : w.heap.size ≤ w'.heap.size
  block : ∀ k, k < w.heap.size → k ∉ S → w'.heap[k]? = w.heap[k]?

theorem Fr.refl (S : List Nat) (w : World) : Fr S w w := ⟨rfl, rfl, rfl, Nat.le_refl _, fun _ _ _ => rfl⟩
theorem Fr.trans {S : List Nat} {a b c : World} (h : Fr S a b) (k : Fr S b c) : Fr S a c :=
  ⟨k.os.trans h.os, k.tape.trans h.tape, k.output.trans h.output, Nat.le_trans h.size k.size, fun i hi hs => (k.block i (Nat.lt_of_lt_of_le hi h.size) hs).trans (h.block i hi hs)⟩
/-- Two steps; the second may write new blocks of the first. -/
theorem Fr.step {S T : List Nat} {a b c : World} (h : Fr S a b) (k : Fr T b c) (hT : ∀ t, t ∈ T → t ∈ S ∨ a.heap.size ≤ t) : Fr S a c :=
  ⟨k.os.trans h.os, k.tape.trans h.tape, k.output.trans h.output, Nat.le_trans h.size k.size,
   fun i hi hs => (k.block i (Nat.lt_of_lt_of_le hi h.size) (fun ht => by rcases hT i ht with h1 | h1; exact hs h1; omega)).trans (h.block i hi hs)⟩
theorem Fr.sub {S T : List Nat} {a b : World} (h : Fr S a b) (hS : ∀ s, s ∈ S → s ∈ T ∨ a.heap.size ≤ s) : Fr T a b :=
  ⟨h.os, h.tape, h.output, h.size, fun i hi hs => h.block i hi (fun ht => by rcases hS i ht with h1 | h1; exact hs h1; omega)⟩
theorem Fr.drew {S : List Nat} {a w : World} (h : Fr S a w) : Fr S a w.drew := ⟨h.os, h.tape, h.output, h.size, h.block⟩
theorem Fr.alloc {S : List Nat} {a w : World} (h : Fr S a w) (o : Obj) : Fr S a (w.alloc o) :=
  h.trans ⟨rfl, rfl, rfl, by simp, fun k hk _ => Below.heap_alloc _ _ _ hk⟩
theorem Fr.setCell {S : List Nat} {a w : World} (h : Fr S a w) {p : Addr} (hp : p.block ∈ S ∨ a.heap.size ≤ p.block) (u : Value) : Fr S a (w.setCell p u) :=
  h.step (T := [p.block]) ⟨rfl, rfl, rfl, by simp [World.setCell], fun k _ hs => Below.heap_setCell _ _ _ _ (by simpa using hs)⟩ (fun t ht => by simp at ht; subst ht; exact hp)
theorem Fr.grown {S : List Nat} {a w w' : World} {row : Option Nat} (h : Fr S a w) (hg : w.grownBy w' row) (hr : ∀ k, row = some k → k ∈ S ∨ a.heap.size ≤ k) : Fr S a w' :=
  h.step (T := row.toList) ⟨hg.os, hg.tape, hg.output, hg.size, fun k hk hs => hg.block k hk (fun e => hs (by rw [← e]; simp))⟩ (fun t ht => hr t (by cases row <;> simp_all))
theorem Fr.of_below {w w' : World} (h : Below w.heap.size w w') : Fr [] w w' := ⟨h.os, h.tape, h.output, h.size, fun k hk _ => h.block k hk⟩
theorem Fr.below {S : List Nat} {w w' : World} {B : Nat} (h : Fr S w w') (hB : B ≤ w.heap.size) (hS : ∀ s, s ∈ S → B ≤ s) : Below B w w' :=
  ⟨h.os, h.tape, h.output, h.size, fun k hk => h.block k (by omega) (fun hs => by have := hS k hs; omega)⟩
theorem Fr.cell {S : List Nat} {w w' : World} (h : Fr S w w') {p : Addr} {v : Value} (hc : w.cell? p = some v) (hs : p.block ∉ S) : w'.cell? p = some v :=
  (World.cell?_of_block (h.block p.block (World.block_lt_of_cell? w p hc) hs)).trans hc
theorem Fr.cellEq {S : List Nat} {w w' : World} (h : Fr S w w') {p : Addr} (hp : p.block < w.heap.size) (hs : p.block ∉ S) : w'.cell? p = w.cell? p :=
  World.cell?_of_block (h.block p.block hp hs)
theorem Fr.frozenEq {S : List Nat} {w w' : World} (h : Fr S w w') {p : Addr} (hp : p.block < w.heap.size) (hs : p.block ∉ S) : w'.frozen? p = w.frozen? p :=
  World.frozen?_of_block (h.block p.block hp hs)
/-- A whole block stays. -/
theorem Fr.blk {S : List Nat} {w w' : World} (h : Fr S w w') {g : Nat} {o : Obj} (hg : w.heap[g]? = some o) (hs : g ∉ S) : w'.heap[g]? = some o :=
  (h.block g (Array.getElem?_eq_some_iff.1 hg).1 hs).trans hg

theorem ret_int {k : IntKind} {a b : Int} (h : a = b) : Ending.returned (.int k a) = .returned (.int k b) := by rw [h]
theorem ret_bool {a b : Bool} (h : a = b) : Ending.returned (.bool a) = .returned (.bool b) := by rw [h]
theorem ret_val {a b : Value} (h : a = b) : Ending.returned a = .returned b := by rw [h]

/-- A byte as a cell. -/
def bv (b : UInt8) : Value := .int .u8 (b.toNat : Int)
def bvs (l : List UInt8) : List Value := l.map bv
theorem bvs_length (l : List UInt8) : (bvs l).length = l.length := by simp [bvs]
theorem bvs_append (l m : List UInt8) : bvs (l ++ m) = bvs l ++ bvs m := by simp [bvs]
theorem bvs_one (l : List UInt8) : ∀ u ∈ bvs l, u.oneCell' = true := by
  intro u hu
  obtain ⟨_, _, rfl⟩ := List.mem_map.1 hu
  rfl
theorem bvs_at {l : List UInt8} {j : Nat} (h : j < l.length) : (bvs l)[j]? = some (bv l[j]) := by simp [bvs, h]

/-- Block g is a row of bytes with room for cap; its first bytes are l; none of its cells is frozen. -/
def Row (w : World) (e : TypeId) (g cap : Nat) (l : List UInt8) : Prop :=
  ∃ cur fr, w.heap[g]? = some (.cells cur e fr) ∧ (∀ j, j < cur.size → ¬ (fr.1 ≤ j ∧ j < fr.2)) ∧ cap ≤ cur.size ∧ l.length ≤ cap ∧ cap ≤ maxLen ∧ cur.toList.take l.length = bvs l

/-- The slice value v begins at the head of a row of bytes (or is nil) and holds l. -/
def Own (w : World) (e : TypeId) (v : Value) (l : List UInt8) : Prop :=
  (v = .slice none 0 0 ∧ l = []) ∨ ∃ g cap, v = .slice (some ⟨g, 0, none⟩) l.length cap ∧ Row w e g cap l

theorem Own.nil (w : World) (e : TypeId) : Own w e (.slice none 0 0) [] := .inl ⟨rfl, rfl⟩

theorem Row.fr {S : List Nat} {w w' : World} {e : TypeId} {g cap : Nat} {l : List UInt8} (h : Row w e g cap l) (f : Fr S w w') (hs : g ∉ S) : Row w' e g cap l := by
  obtain ⟨cur, fr, h1, h2⟩ := h
  exact ⟨cur, fr, f.blk h1 hs, h2⟩

theorem Own.fr {S : List Nat} {w w' : World} {e : TypeId} {v : Value} {l : List UInt8} (h : Own w e v l) (f : Fr S w w') (hs : ∀ g, v.ownBlock = some g → g ∉ S) : Own w' e v l := by
  rcases h with h | ⟨g, cap, rfl, h⟩
  · exact .inl h
  · exact .inr ⟨g, cap, rfl, h.fr f (hs g rfl)⟩

theorem Row.lt {w : World} {e : TypeId} {g cap : Nat} {l : List UInt8} (h : Row w e g cap l) : g < w.heap.size := by
  obtain ⟨cur, fr, h1, _⟩ := h
  exact (Array.getElem?_eq_some_iff.1 h1).1
theorem Own.lt {w : World} {e : TypeId} {v : Value} {l : List UInt8} (h : Own w e v l) : ∀ g, v.ownBlock = some g → g < w.heap.size := by
  intro k hk
  rcases h with ⟨rfl, _⟩ | ⟨g, cap, rfl, h⟩
  · simp [Value.ownBlock] at hk
  · simp [Value.ownBlock] at hk; subst hk; exact h.lt

theorem Row.cell {w : World} {e : TypeId} {g cap : Nat} {l : List UInt8} (h : Row w e g cap l) {j : Nat} (hj : j < l.length) : w.cell? ⟨g, j, none⟩ = some (bv l[j]) := by
  obtain ⟨cur, fr, h1, _, _, _, _, h6⟩ := h
  rw [cell_of_row w g j cur e fr h1]
  have h7 := congrArg (fun x => x[j]?) h6
  simp only [List.getElem?_take, if_pos hj, bvs_at hj] at h7
  simpa using h7
theorem Row.free {w : World} {e : TypeId} {g cap : Nat} {l : List UInt8} (h : Row w e g cap l) {j : Nat} (hj : j < cap) : (w.cell? ⟨g, j, none⟩).isSome = true ∧ w.frozen? ⟨g, j, none⟩ = false := by
  obtain ⟨cur, fr, h1, h2, h3, _⟩ := h
  refine ⟨?_, ?_⟩
  · rw [cell_of_row w g j cur e fr h1]
    simp [show j < cur.size by omega]
  · have := h2 j (by omega)
    simp only [World.frozen?, h1]
    cases fr
    simp only at this ⊢
    simp only [Bool.and_eq_false_iff, decide_eq_false_iff_not]
    omega

/-- Cells written one behind the other into a row. -/
theorem setCells_row (g : Nat) (e : TypeId) : ∀ (vs : List Value) (o : Nat) (cur : Array Value) (w : World) (fr : Nat × Nat), w.heap[g]? = some (.cells cur e fr) → o + vs.length ≤ cur.size →
    ∃ cur' : Array Value, (w.setCells g o vs).heap[g]? = some (.cells cur' e fr) ∧ cur'.size = cur.size ∧ ∀ i, cur'[i]? = if i < o then cur[i]? else if i < o + vs.length then vs[i - o]? else cur[i]?
  | [], o, cur, w, fr, h, _ => ⟨cur, h, rfl, fun i => by simp only [List.length_nil, Nat.add_zero]; split <;> simp⟩
  | v :: r, o, cur, w, fr, h, hl => by
    simp only [List.length_cons] at hl
    have h' : (w.setCell ⟨g, o, none⟩ v).heap[g]? = some (.cells (cur.setIfInBounds o v) e fr) := by
      rw [setCell_eq_setRow w g o cur e fr v h]
      exact setRow_heap w g cur _ e fr h
    obtain ⟨c', h1, h2, h3⟩ := setCells_row g e r (o + 1) (cur.setIfInBounds o v) (w.setCell ⟨g, o, none⟩ v) fr h' (by simp; omega)
    refine ⟨c', h1, by simpa using h2, fun i => ?_⟩
    rw [h3 i]
    simp only [List.length_cons, Array.getElem?_setIfInBounds]
    by_cases a1 : i < o
    · rw [if_pos (by omega), if_neg (by omega), if_pos a1]
    · by_cases a2 : i = o
      · subst a2
        rw [if_pos (by omega), if_pos rfl, if_pos (by omega), if_neg a1, if_pos (by omega)]
        simp
      · rw [if_neg (show ¬ i < o + 1 by omega), if_neg a1]
        by_cases a3 : i < o + (r.length + 1)
        · rw [if_pos (show i < o + 1 + r.length by omega), if_pos a3, show i - o = (i - (o + 1)) + 1 by omega, List.getElem?_cons_succ]
        · rw [if_neg (show ¬ i < o + 1 + r.length by omega), if_neg a3, if_neg (show ¬ o = i by omega)]

theorem setCells_fr (g : Nat) (w : World) (o : Nat) (vs : List Value) : Fr [g] w (w.setCells g o vs) := by
  induction vs generalizing w o with
  | nil => exact Fr.refl _ _
  | cons v r ih => exact ((Fr.refl [g] w).setCell (p := ⟨g, o, none⟩) (by simp) v).trans (ih _ _)

theorem take_bvs {cur : Array Value} {l : List UInt8} {n : Nat} (h : ∀ i, i < n → cur[i]? = (bvs l)[i]?) (hn : l.length = n) (hc : n ≤ cur.size) : cur.toList.take l.length = bvs l := by
  subst hn
  apply List.ext_getElem?
  intro i
  rw [List.getElem?_take]
  by_cases hi : i < l.length
  · rw [if_pos hi, ← h i hi]; simp
  · rw [if_neg hi]
    simp [bvs, Nat.le_of_not_lt hi]

section
variable {P : Program}
theorem Own.first {w : World} {e : TypeId} {v : Value} {l : List UInt8} (h : Own w e v l) : ∃ b n c, v = .slice b n c ∧ n = l.length ∧ l.length ≤ c ∧ (Builtin.firstCells 1 l.length v).run P w = .ok (bvs l).toArray w := by
  rcases h with ⟨rfl, rfl⟩ | ⟨g, cap, rfl, hr⟩
  · exact ⟨none, 0, 0, rfl, rfl, Nat.le_refl _, by simp [Builtin.firstCells, bvs]⟩
  · refine ⟨_, _, _, rfl, rfl, by obtain ⟨_, _, _, _, _, h, _⟩ := hr; exact h, ?_⟩
    have := run_firstCells_some (P := P) w 1 l.length ⟨g, 0, none⟩ l.length cap (bvs l) (by simp [bvs]) (fun j u hu => by
      have hj : j < l.length := by
        have := (List.getElem?_eq_some_iff.1 hu).1
        simpa [bvs] using this
      have hadd : (⟨g, 0, none⟩ : Addr).add j = ⟨g, j, none⟩ := by unfold Addr.add; split <;> simp_all
      rw [hadd, hr.cell hj, ← hu, bvs_at hj])
    exact this

/-- append onto an owned row of bytes, of whatever source of bytes. -/
theorem run_append_b (w : World) (t tx ty e : TypeId) (i : TypeInfo) (z : Value) (ht : P.underlying t = some (.slice e)) (hi : P.info? e = some i) (hz : i.zero = some z) (hs1 : i.size = 1) (hb1 : i.bytes = 1) (hz1 : z.cells.size = 1)
    (v : Value) (l m : List UInt8) (x : Value) (hown : Own w e v l) (hs : Src P 1 tx x m.length (bvs m) w) (hlen : l.length + m.length ≤ 70368744177664) :
    ∃ v' w', (Builtin.append_ #[t, tx] ty #[v, x]).run P w = .ok v' w' ∧ Own w' e v' (l ++ m) ∧ Fr v.ownBlock.toList w w' ∧ (v'.ownBlock = v.ownBlock ∨ v'.ownBlock = some w.heap.size) := by
  obtain ⟨bs, n, c, hv, hn, hc, hf⟩ := Own.first (P := P) hown
  subst hn
  by_cases hroom : l.length + m.length ≤ c
  · -- there is room
    rcases hown with ⟨rfl, rfl⟩ | ⟨g, cap, rfl, cur, fr, h1, h2, h3, h4, h5, h6⟩
    · cases hv
      have hm : m = [] := List.eq_nil_of_length_eq_zero (by simp only [List.length_nil] at hroom; omega)
      subst hm
      have hs2 := hs.cells
      simp only [List.length_nil] at hs2
      refine ⟨.slice none 0 0, w, ?_, Own.nil _ _, Fr.refl _ _, .inl rfl⟩
      rcases hs.kind with ⟨e', hk⟩ | hk <;> simp [Builtin.append_, run_underlying ht, run_underlying hk, sizeOf, typeInfo, hi, hs.len, hs1, hs2]
    · cases hv
      have hfree := fun j (hj : j < c) => (show Row w e g c l from ⟨cur, fr, h1, h2, h3, h4, h5, h6⟩).free hj
      have hr := run_append_room_src (P := P) w t tx ty e i ht hi g 0 l.length c x m.length (bvs m) (by rw [hs1]; exact hs) hroom
        (fun j hj => by rw [bvs_length] at hj; rw [hs1]; exact (hfree (0 + l.length * 1 + j) (by omega)).1)
        (fun j hj => by rw [bvs_length] at hj; rw [hs1]; exact (hfree (0 + l.length * 1 + j) (by omega)).2)
      rw [hs1] at hr
      simp only [Nat.zero_add, Nat.mul_one] at hr
      have hfr := setCells_fr g w l.length (bvs m)
      obtain ⟨cur', k1, k2, k3⟩ := setCells_row g e (bvs m) l.length cur w fr h1 (by rw [bvs_length]; omega)
      generalize w.setCells g l.length (bvs m) = w1 at hr hfr k1
      refine ⟨.slice (some ⟨g, 0, none⟩) (l.length + m.length) c, w1, hr, .inr ⟨g, c, by simp, ?_⟩, hfr, .inl rfl⟩
      refine ⟨cur', fr, k1, by rw [k2]; exact h2, by omega, by simpa using hroom, h5, ?_⟩
      refine take_bvs (n := l.length + m.length) (fun i hi => ?_) (by simp) (by omega)
      rw [k3 i, bvs_length, bvs_append, List.getElem?_append, bvs_length]
      by_cases a : i < l.length
      · rw [if_pos a, if_pos a]
        have h7 := congrArg (fun x => x[i]?) h6
        simp only [List.getElem?_take, if_pos a] at h7
        rw [← h7]; simp
      · rw [if_neg a, if_neg a, if_pos hi]
  · -- a new row
    have hgr := run_append_grow_src (P := P) w t tx ty e i z ht hi hz bs l.length c (bvs l) (by
        have h2 := Own.first (P := P) (show Own w.drew e v l from hown)
        obtain ⟨b2, n2, c2, hv2, _, _, hf2⟩ := h2
        rw [hs1, ← hv]
        exact hf2) x m.length (bvs m) (by rw [hs1]; exact hs) (by omega) (by omega) (growslice_fits (by omega) (by rw [hb1]; omega))
    rw [hv]
    refine ⟨_, _, hgr, .inr ⟨w.heap.size, grownCap w (l.length + m.length) c e, by simp, ?_⟩, ?_, .inr rfl⟩
    · refine ⟨_, (0, 0), heap_alloc_new w.drew _, fun j _ h => by omega, ?_, ?_, grownCap_le_maxLen w _ _ _ (by unfold maxLen; omega), ?_⟩
      · have := grownCap_ge w (l.length + m.length) c e
        simp [size_zeroCells, hz1, bvs]
        omega
      · have := grownCap_ge w (l.length + m.length) c e
        simp; omega
      · simp only [Array.toList_append, ← bvs_append]
        rw [← bvs_length (l ++ m)]
        exact List.take_left
    · exact ((Fr.refl _ w).drew).alloc _
end

end Go.Proofs.YtpkkgngpjeoffaaGreatDoor
namespace Go.Proofs.YtpkkgngpjeoffaaGreatDoor
open Go.RowKit

section
variable {P : Program}

/-- append onto an owned row of bytes: the walk's law. -/
theorem wpList_append_b (w : World) {ops : Array Oper} {rest : List Oper} {o : Oper} {a : Act} {Q : Exit → Act → World → Prop}
    (hg : o.guard = none) (s x : Operand) (t tx : TypeId) (hop : o.op = Op.call { callee := Callee.builtin Builtin.append, args := #[s, x], argTypes := #[t, tx] })
    (e : TypeId) (i : TypeInfo) (z : Value) (h1 : P.underlying t = some (.slice e)) (h2 : P.info? e = some i) (h3 : i.zero = some z) (h4 : i.size = 1) (h5 : i.bytes = 1) (h6 : z.cells.size = 1)
    (v : Value) (l m : List UInt8) (xv : Value) (hv : a.eval s = v) (hx : a.eval x = xv) (hown : Own w e v l) (hs : Src P 1 tx xv m.length (bvs m) w) (hlen : l.length + m.length ≤ 70368744177664)
    (hK : ∀ v' w', Own w' e v' (l ++ m) → Fr v.ownBlock.toList w w' → (v'.ownBlock = v.ownBlock ∨ v'.ownBlock = some w.heap.size) → wpList P ops Q rest (a.put o.dst v') w') :
    wpList P ops Q (o :: rest) a w := by
  refine wpList_plain hg fun K hK' => ?_
  obtain ⟨v', w', hrun, r1, r2, r3⟩ := run_append_b (P := P) w t tx o.type e i z h1 h2 h3 h4 h5 h6 v l m xv hown hs hlen
  unfold Oper.wp
  simp [execOp, hop, resolve, invoke, builtin, hv, hx, hrun, Result.andThen]
  exact hK' _ _ (hK v' w' r1 r2 r3)

/-- Rows of zero bytes. -/
def zbytes (n : Nat) : Array Value := madeCells #[.int .u8 0] n
theorem zbytes_size (n : Nat) : (zbytes n).size = n := size_madeCells _ _

/-- make([]byte, l, c). -/
theorem wpList_make_b (w : World) {ops : Array Oper} {rest : List Oper} {o : Oper} {a : Act} {Q : Exit → Act → World → Prop}
    (hg : o.guard = none) (l c : Operand) (t : TypeId) (hop : o.op = Op.makeSlice t l c)
    (e : TypeId) (i : TypeInfo) (h1 : P.underlying t = some (.slice e)) (h2 : P.info? e = some i) (h3 : i.zero = some (.int .u8 0)) (h4 : i.size = 1) (h5 : i.bytes = 1)
    (kl kc : IntKind) (L C : Int) (n m : Nat) (hl : a.eval l = .int kl L) (hc : a.eval c = .int kc C) (hL : L = (n : Int)) (hC : C = (m : Int)) (hnm : n ≤ m) (b : m ≤ 70368744177664)
    (hK : ∀ w', w'.heap[w.heap.size]? = some (.cells (zbytes m) e (0, 0)) → Fr [] w w' → wpList P ops Q rest (a.put o.dst (.slice (some ⟨w.heap.size, 0, none⟩) n m)) w') :
    wpList P ops Q (o :: rest) a w := by
  refine wpList_plain hg fun K hK' => ?_
  subst hL; subst hC
  have hrun := run_make (P := P) w t e i (.int .u8 0) h1 h2 h3 kl kc n m (by omega) (by omega) (by rw [h5]; omega) (by omega)
  simp only [Int.toNat_natCast, h4, Nat.mul_one] at hrun
  unfold Oper.wp
  simp only [execOp, hop, hl, hc]
  rw [Sem.run_bind, hrun]
  simp [Result.andThen]
  exact hK' _ _ (hK _ (heap_alloc_new w _) ((Fr.refl _ _).alloc _))

/-- copy of an owned row of bytes to the head of another row. -/
theorem wpList_copy_b (w : World) {ops : Array Oper} {rest : List Oper} {o : Oper} {a : Act} {Q : Exit → Act → World → Prop}
    (hg : o.guard = none) (d s : Operand) (t : TypeId) (hop : o.op = .call { callee := .builtin .copy, args := #[d, s], argTypes := #[t, t] })
    (e : TypeId) (h1 : P.underlying t = some (.slice e)) (h2 : (P.info? e).map (·.size) = some 1)
    (g cap : Nat) (v : Value) (l : List UInt8) (hd : a.eval d = .slice (some ⟨g, 0, none⟩) l.length cap) (hs : a.eval s = v) (hown : Own w e v l) (cur : Array Value) (hgc : w.heap[g]? = some (.cells cur e (0, 0)))
    (hcap : cap = cur.size) (hlc : l.length ≤ cap) (hm : cap ≤ maxLen)
    (hK : ∀ w', Row w' e g cap l → (∃ cur', w'.heap[g]? = some (.cells cur' e (0, 0))) → Fr [g] w w' → wpList P ops Q rest (a.put o.dst (goInt l.length)) w') :
    wpList P ops Q (o :: rest) a w := by
  subst hcap
  rcases hown with ⟨rfl, rfl⟩ | ⟨g', c', rfl, hr⟩
  · refine wpList_copy_nothing hg d s t t hop e h1 h2 _ none _ _ 0 0 hd hs rfl (hK w ⟨cur, (0, 0), hgc, fun j _ h => by omega, Nat.le_refl _, Nat.zero_le _, hm, by simp [bvs]⟩ ⟨cur, hgc⟩ (Fr.refl _ _))
  · refine wpList_copy_own hg d s t t hop e h1 h2 g 0 l.length cur.size ⟨g', 0, none⟩ l.length c' hd hs cur e hgc (bvs l) (by simp [bvs]) (fun j u hu => ?_) (by simpa [bvs] using hlc) (bvs_one l) ?_
    · have hj : j < l.length := by
        have := (List.getElem?_eq_some_iff.1 hu).1
        simpa [bvs] using this
      have hadd : (⟨g', 0, none⟩ : Addr).add j = ⟨g', j, none⟩ := by unfold Addr.add; split <;> simp_all
      rw [hadd, hr.cell hj, ← hu, bvs_at hj]
    · rw [bvs_length]
      have hh := setRow_heap w g cur (cur.toList.take 0 ++ (bvs l ++ cur.toList.drop (0 + l.length))).toArray e (0, 0) hgc
      have hfr : Fr [g] w (w.setRow g (cur.toList.take 0 ++ (bvs l ++ cur.toList.drop (0 + l.length))).toArray) := ⟨rfl, rfl, rfl, by simp, fun k _ hs => setRow_other w g k _ (by simpa using hs)⟩
      refine hK _ ⟨_, (0, 0), hh, fun j _ h => by omega, ?_, hlc, hm, ?_⟩ ⟨_, hh⟩ hfr
      · simp [bvs]; omega
      · simp only [List.take_zero, List.nil_append]
        rw [← bvs_length l]
        exact List.take_left
end
end Go.Proofs.YtpkkgngpjeoffaaGreatDoor
namespace Go.Proofs.YtpkkgngpjeoffaaGreatDoor
open Go.RowKit

theorem Tryz.info5 : (Tryz.prog.info? 5).map (fun i => (i.zero, i.size, i.bytes)) = some (some (.int .u8 0), 1, 1) := by kernel_rfl
theorem u42 : Tryz.prog.underlying 42 = some (.slice 5) := Tryz.underlying42
theorem u9 : Tryz.prog.underlying 9 = some .string := Tryz.underlying9

/-- append onto a row of bytes, at this program. -/
theorem wpApp (w : World) {ops : Array Oper} {rest : List Oper} {o : Oper} {a : Act} {Q : Exit → Act → World → Prop}
    (hg : o.guard = none) (s x : Operand) (tx : TypeId) (hop : o.op = Op.call { callee := Callee.builtin Builtin.append, args := #[s, x], argTypes := #[42, tx] })
    (v : Value) (l m : List UInt8) (xv : Value) (hv : a.eval s = v) (hx : a.eval x = xv) (hown : Own w 5 v l) (hs : Src Tryz.prog 1 tx xv m.length (bvs m) w) (hlen : l.length + m.length ≤ 70368744177664)
    (hK : ∀ v' w', Own w' 5 v' (l ++ m) → Fr v.ownBlock.toList w w' → (v'.ownBlock = v.ownBlock ∨ v'.ownBlock = some w.heap.size) → wpList Tryz.prog ops Q rest (a.put o.dst v') w') :
    wpList Tryz.prog ops Q (o :: rest) a w := by
  obtain ⟨i5, hi, hz0, hz1, hz2⟩ := info_parts Tryz.info5
  exact wpList_append_b w hg s x 42 tx hop 5 i5 _ u42 hi hz0 hz1 hz2 rfl v l m xv hv hx hown hs hlen hK

theorem wpMake (w : World) {ops : Array Oper} {rest : List Oper} {o : Oper} {a : Act} {Q : Exit → Act → World → Prop}
    (hg : o.guard = none) (l c : Operand) (hop : o.op = Op.makeSlice 42 l c)
    (L C : Int) (n m : Nat) (hl : a.eval l = .int .i64 L) (hc : a.eval c = .int .i64 C) (hL : L = (n : Int)) (hC : C = (m : Int)) (hnm : n ≤ m) (b : m ≤ 70368744177664)
    (hK : ∀ w', w'.heap[w.heap.size]? = some (.cells (zbytes m) 5 (0, 0)) → Fr [] w w' → wpList Tryz.prog ops Q rest (a.put o.dst (.slice (some ⟨w.heap.size, 0, none⟩) n m)) w') :
    wpList Tryz.prog ops Q (o :: rest) a w := by
  obtain ⟨i5, hi, hz0, hz1, hz2⟩ := info_parts Tryz.info5
  exact wpList_make_b w hg l c 42 hop 5 i5 u42 hi hz0 hz1 hz2 .i64 .i64 L C n m hl hc hL hC hnm b hK

theorem wpCopy (w : World) {ops : Array Oper} {rest : List Oper} {o : Oper} {a : Act} {Q : Exit → Act → World → Prop}
    (hg : o.guard = none) (d s : Operand) (hop : o.op = .call { callee := .builtin .copy, args := #[d, s], argTypes := #[42, 42] })
    (g cap : Nat) (v : Value) (l : List UInt8) (hd : a.eval d = .slice (some ⟨g, 0, none⟩) l.length cap) (hs : a.eval s = v) (hown : Own w 5 v l) (cur : Array Value) (hgc : w.heap[g]? = some (.cells cur 5 (0, 0)))
    (hcap : cap = cur.size) (hlc : l.length ≤ cap) (hm : cap ≤ maxLen)
    (hK : ∀ w', Row w' 5 g cap l → (∃ cur', w'.heap[g]? = some (.cells cur' 5 (0, 0))) → Fr [g] w w' → wpList Tryz.prog ops Q rest (a.put o.dst (goInt l.length)) w') :
    wpList Tryz.prog ops Q (o :: rest) a w := by
  obtain ⟨i5, hi, hz0, hz1, hz2⟩ := info_parts Tryz.info5
  exact wpList_copy_b w hg d s 42 hop 5 u42 (by rw [hi]; exact congrArg some hz1) g cap v l hd hs hown cur hgc hcap hlc hm hK

theorem srcStr (w : World) (s : ByteArray) : Src Tryz.prog 1 9 (.string s) s.data.toList.length (bvs s.data.toList) w := by
  have h := Src.ofString (P := Tryz.prog) w (tx := 9) u9 s
  have e : s.data.toList.length = s.size := by simp
  rw [e]
  exact h
/-- The source of an append that is itself a row of bytes (or a part of one from its head on). -/
theorem srcRow (w : World) {g cap c : Nat} {l : List UInt8} (m : List UInt8) (h : Row w 5 g cap l) (hm : ∀ j, j < m.length → l[j]? = m[j]?) (hml : m.length ≤ l.length) : Src Tryz.prog 1 42 (.slice (some ⟨g, 0, none⟩) m.length c) m.length (bvs m) w :=
  Src.ofSlice w (e' := 5) u42 ⟨g, 0, none⟩ m.length c (bvs m) (by simp [bvs]) (fun j u hu => by
    have hj : j < m.length := by
      have := (List.getElem?_eq_some_iff.1 hu).1
      simpa [bvs] using this
    have hadd : (⟨g, 0, none⟩ : Addr).add j = ⟨g, j, none⟩ := by unfold Addr.add; split <;> simp_all
    have e : l[j] = m[j] := by
      have := hm j hj
      simpa [List.getElem?_eq_getElem hj, List.getElem?_eq_getElem (show j < l.length by omega)] using this
    rw [hadd, h.cell (show j < l.length by omega), ← hu, bvs_at hj, e]) (bvs_one m)
/-- One byte, as the walk lays it ahead of 'append(x, c)'. -/
theorem srcOne (w : World) (c : UInt8) (g n : Nat) (h : w.cell? ⟨g, 0, none⟩ = some (.int .u8 (c.toNat : Int))) : Src Tryz.prog 1 42 (.slice (some ⟨g, 0, none⟩) 1 n) [c].length (bvs [c]) w :=
  Src.ofSlice w (e' := 5) u42 ⟨g, 0, none⟩ 1 n (bvs [c]) rfl (fun j u hu => by
    match j, hu with
    | 0, hu => simp [bvs, bv] at hu; subst hu; simpa [Addr.add] using h) (bvs_one _)

/-- WHAT AN APPENDING CALL LEAVES: the bytes r, in the same block or in a new one; nothing else is turned. -/
def App (w : World) (dst : Value) (r : List UInt8) (e : Ending) (w' : World) : Prop :=
  ∃ d', e = .returned d' ∧ Own w' 5 d' r ∧ Fr dst.ownBlock.toList w w' ∧ (d'.ownBlock = dst.ownBlock ∨ ∃ g, d'.ownBlock = some g ∧ w.heap.size ≤ g)
end Go.Proofs.YtpkkgngpjeoffaaGreatDoor
namespace Go.Proofs.YtpkkgngpjeoffaaGreatDoor
open Go.RowKit

/-- A step that turned the block of v alone (or made new ones): v' lives in the same block or in a new one. -/
def Stp (w w' : World) (v v' : Value) : Prop := Fr v.ownBlock.toList w w' ∧ (v'.ownBlock = v.ownBlock ∨ ∃ g, v'.ownBlock = some g ∧ w.heap.size ≤ g)
theorem Stp.refl (w : World) (v : Value) : Stp w w v v := ⟨Fr.refl _ _, .inl rfl⟩
theorem Stp.trans {a b c : World} {x y z : Value} (h : Stp a b x y) (k : Stp b c y z) : Stp a c x z := by
  obtain ⟨h1, h2⟩ := h
  obtain ⟨k1, k2⟩ := k
  refine ⟨h1.step k1 (fun t ht => ?_), ?_⟩
  · rcases h2 with h2 | ⟨g, h2, h3⟩
    · rw [h2] at ht; exact .inl ht
    · rw [h2] at ht; simp at ht; subst ht; exact .inr h3
  · rcases k2 with k2 | ⟨g, k2, k3⟩
    · rcases h2 with h2 | h2
      · exact .inl (k2.trans h2)
      · obtain ⟨g, h2, h3⟩ := h2; exact .inr ⟨g, k2.trans h2, h3⟩
    · exact .inr ⟨g, k2, Nat.le_trans h1.size k3⟩
theorem Stp.pre {a b c : World} {x y : Value} (h : Fr [] a b) (k : Stp b c x y) : Stp a c x y :=
  (show Stp a b x x from ⟨h.sub (by simp), .inl rfl⟩).trans k
theorem Stp.post {a b c : World} {x y : Value} (h : Stp a b x y) (k : Fr [] b c) : Stp a c x y :=
  h.trans ⟨k.sub (by simp), .inl rfl⟩
theorem App.mk {w w' : World} {dst d' : Value} {r : List UInt8} (ho : Own w' 5 d' r) (hs : Stp w w' dst d') : App w dst r (.returned d') w' := ⟨d', rfl, ho, hs⟩
theorem App.pre {a b : World} {dst : Value} {r : List UInt8} {e : Ending} {w' : World} (h : Fr [] a b) (k : App b dst r e w') : App a dst r e w' := by
  obtain ⟨d', h1, h2, h3⟩ := k
  exact ⟨d', h1, h2, Stp.pre h h3⟩
/-- What lay elsewhere stays. -/
theorem Stp.own {w w' : World} {v v' u : Value} {l : List UInt8} (h : Stp w w' v v') (ho : Own w 5 u l) (hne : ∀ g, u.ownBlock = some g → v.ownBlock ≠ some g) : Own w' 5 u l :=
  ho.fr h.1 (fun g hg hm => hne g hg (by simpa using hm))

/-- append, the step as Stp. -/
theorem wpAppS (w : World) {ops : Array Oper} {rest : List Oper} {o : Oper} {a : Act} {Q : Exit → Act → World → Prop}
    (hg : o.guard = none) (s x : Operand) (tx : TypeId) (hop : o.op = Op.call { callee := Callee.builtin Builtin.append, args := #[s, x], argTypes := #[42, tx] })
    (v : Value) (l m : List UInt8) (xv : Value) (hv : a.eval s = v) (hx : a.eval x = xv) (hown : Own w 5 v l) (hs : Src Tryz.prog 1 tx xv m.length (bvs m) w) (hlen : l.length + m.length ≤ 70368744177664)
    (hK : ∀ v' w', Own w' 5 v' (l ++ m) → Stp w w' v v' → wpList Tryz.prog ops Q rest (a.put o.dst v') w') :
    wpList Tryz.prog ops Q (o :: rest) a w :=
  wpApp w hg s x tx hop v l m xv hv hx hown hs hlen (fun v' w' h1 h2 h3 => hK v' w' h1 ⟨h2, h3.imp_right fun h => ⟨_, h, Nat.le_refl _⟩⟩)

/-- append(x, c), the byte laid just ahead. -/
theorem wpApp1 (w : World) {ops : Array Oper} {rest : List Oper} {o : Oper} {a : Act} {Q : Exit → Act → World → Prop}
    (hg : o.guard = none) (s x : Operand) (hop : o.op = Op.call { callee := Callee.builtin Builtin.append, args := #[s, x], argTypes := #[42, 42] })
    (v : Value) (l : List UInt8) (n : Int) (c : UInt8) (hc : n = (c.toNat : Int)) (hv : a.eval s = v) (hx : a.eval x = .slice (some ⟨w.heap.size, 0, none⟩) 1 1) (hown : Own w 5 v l) (hlen : l.length + 1 ≤ 70368744177664)
    (hK : ∀ v' w', Own w' 5 v' (l ++ [c]) → Stp w w' v v' → wpList Tryz.prog ops Q rest (a.put o.dst v') w') :
    wpList Tryz.prog ops Q (o :: rest) a (w.alloc (.cells #[.int .u8 n] 5)) := by
  subst hc
  have hal : Fr [] w (w.alloc (.cells #[.int .u8 (c.toNat : Int)] 5)) := (Fr.refl _ _).alloc _
  exact wpAppS _ hg s x 42 hop v l [c] _ hv hx (hown.fr hal (by simp)) (srcOne _ c w.heap.size 1 (by rw [World.cell?_alloc_mark]; rfl)) hlen (fun v' w' h1 h2 => hK v' w' h1 (Stp.pre hal h2))
/-- The same, the new block's frozen mark written out. -/
theorem wpApp2 (w : World) {ops : Array Oper} {rest : List Oper} {o : Oper} {a : Act} {Q : Exit → Act → World → Prop}
    (hg : o.guard = none) (s x : Operand) (hop : o.op = Op.call { callee := Callee.builtin Builtin.append, args := #[s, x], argTypes := #[42, 42] })
    (v : Value) (l : List UInt8) (n m : Int) (c d : UInt8) (hc : n = (c.toNat : Int)) (hd : m = (d.toNat : Int)) (hv : a.eval s = v) (hx : a.eval x = .slice (some ⟨w.heap.size, 0, none⟩) 2 2) (hown : Own w 5 v l) (hlen : l.length + 2 ≤ 70368744177664)
    (hK : ∀ v' w', Own w' 5 v' (l ++ [c, d]) → Stp w w' v v' → wpList Tryz.prog ops Q rest (a.put o.dst v') w') :
    wpList Tryz.prog ops Q (o :: rest) a (w.alloc (.cells #[.int .u8 n, .int .u8 m] 5)) := by
  subst hc; subst hd
  have hal : Fr [] w (w.alloc (.cells #[.int .u8 (c.toNat : Int), .int .u8 (d.toNat : Int)] 5)) := (Fr.refl _ _).alloc _
  refine wpAppS _ hg s x 42 hop v l [c, d] _ hv hx (hown.fr hal (by simp)) (Src.ofSlice _ (e' := 5) u42 ⟨w.heap.size, 0, none⟩ 2 2 (bvs [c, d]) rfl (fun j u hu => ?_) (bvs_one _)) hlen (fun v' w' h1 h2 => hK v' w' h1 (Stp.pre hal h2))
  have hadd : (⟨w.heap.size, 0, none⟩ : Addr).add j = ⟨w.heap.size, j, none⟩ := by unfold Addr.add; split <;> simp_all
  rw [hadd, World.cell?_alloc_mark, ← hu]
  simp [bvs, bv]
end Go.Proofs.YtpkkgngpjeoffaaGreatDoor
