/- PROVED HERE: a part of round r2's proofs (text LawC): lemmas and walks that later texts use. CONDITIONS: those written ahead of each theorem. -/
import Derived.Test.YtpkkgngpjeoffaaGreatDoorLawA
import Derived.Deep.AppendLies
namespace Go.Proofs.YtpkkgngpjeoffaaGreatDoor
open Go.RowKit

/-- The slice value v (nil, or at the head of a row) holds n elements of size sz whose cells are cs. -/
def OwnC (w : World) (e : TypeId) (sz : Nat) (v : Value) (n : Nat) (cs : List Value) : Prop :=
  cs.length = n * sz ∧ (∀ u ∈ cs, u.oneCell' = true) ∧
  ((v = .slice none 0 0 ∧ n = 0) ∨ ∃ g cap, v = .slice (some ⟨g, 0, none⟩) n cap ∧ ∃ cur fr, w.heap[g]? = some (.cells cur e fr) ∧ (∀ j, j < cur.size → ¬ (fr.1 ≤ j ∧ j < fr.2)) ∧ cap * sz ≤ cur.size ∧ n ≤ cap ∧ cur.toList.take cs.length = cs)

theorem OwnC.nil (w : World) (e : TypeId) (sz : Nat) : OwnC w e sz (.slice none 0 0) 0 [] := ⟨by simp, by simp, .inl ⟨rfl, rfl⟩⟩
theorem OwnC.fr {S : List Nat} {w w' : World} {e : TypeId} {sz : Nat} {v : Value} {n : Nat} {cs : List Value} (h : OwnC w e sz v n cs) (f : Fr S w w') (hs : ∀ g, v.ownBlock = some g → g ∉ S) : OwnC w' e sz v n cs := by
  obtain ⟨h1, h2, h3⟩ := h
  refine ⟨h1, h2, ?_⟩
  rcases h3 with h | ⟨g, cap, rfl, cur, fr, h4, h5⟩
  · exact .inl h
  · exact .inr ⟨g, cap, rfl, cur, fr, f.blk h4 (hs g rfl), h5⟩
theorem OwnC.lt {w : World} {e : TypeId} {sz : Nat} {v : Value} {n : Nat} {cs : List Value} (h : OwnC w e sz v n cs) : ∀ g, v.ownBlock = some g → g < w.heap.size := by
  intro k hk
  rcases h.2.2 with ⟨rfl, _⟩ | ⟨g, cap, rfl, cur, fr, h4, _⟩
  · simp [Value.ownBlock] at hk
  · simp [Value.ownBlock] at hk; subst hk; exact (Array.getElem?_eq_some_iff.1 h4).1
theorem OwnC.shape {w : World} {e : TypeId} {sz : Nat} {v : Value} {n : Nat} {cs : List Value} (h : OwnC w e sz v n cs) : ∃ a c, v = .slice a n c := by
  rcases h.2.2 with ⟨rfl, rfl⟩ | ⟨g, cap, rfl, _⟩
  · exact ⟨_, _, rfl⟩
  · exact ⟨_, _, rfl⟩
/-- Where there is an element, there is a row. -/
theorem OwnC.row {w : World} {e : TypeId} {sz : Nat} {v : Value} {n : Nat} {cs : List Value} (h : OwnC w e sz v n cs) (hn : 0 < n) : ∃ g cap, v = .slice (some ⟨g, 0, none⟩) n cap ∧ n ≤ cap ∧ g < w.heap.size ∧ ∀ j u, cs[j]? = some u → w.cell? ⟨g, j, none⟩ = some u := by
  rcases h.2.2 with ⟨_, h0⟩ | ⟨g, cap, rfl, cur, fr, h4, h5, h6, h7, h8⟩
  · omega
  · refine ⟨g, cap, rfl, h7, (Array.getElem?_eq_some_iff.1 h4).1, fun j u hj => ?_⟩
    rw [cell_of_row w g j cur e fr h4]
    have hl := (List.getElem?_eq_some_iff.1 hj).1
    have h9 := congrArg (fun x => x[j]?) h8
    simp only [List.getElem?_take, if_pos hl, hj] at h9
    simpa using h9

theorem take_of {cur : Array Value} {l : List Value} {n : Nat} (h : ∀ i, i < n → cur[i]? = l[i]?) (hn : l.length = n) (hc : n ≤ cur.size) : cur.toList.take l.length = l := by
  subst hn
  apply List.ext_getElem?
  intro i
  rw [List.getElem?_take]
  by_cases hi : i < l.length
  · rw [if_pos hi, ← h i hi]; simp
  · rw [if_neg hi]
    simp [Nat.le_of_not_lt hi]

section
variable {P : Program}
theorem OwnC.first {w : World} {e : TypeId} {sz : Nat} {v : Value} {n : Nat} {cs : List Value} (h : OwnC w e sz v n cs) : (Builtin.firstCells sz n v).run P w = .ok cs.toArray w := by
  rcases h.2.2 with ⟨rfl, rfl⟩ | ⟨g, cap, rfl, cur, fr, h4, h5, h6, h7, h8⟩
  · have : cs = [] := List.eq_nil_of_length_eq_zero (by have := h.1; omega)
    subst this
    simp [Builtin.firstCells]
  · refine run_firstCells_some (P := P) w sz n ⟨g, 0, none⟩ n cap cs h.1 (fun j u hu => ?_)
    have hadd : (⟨g, 0, none⟩ : Addr).add j = ⟨g, j, none⟩ := by unfold Addr.add; split <;> simp_all
    rw [hadd, cell_of_row w g j cur e fr h4]
    have hl := (List.getElem?_eq_some_iff.1 hu).1
    have h9 := congrArg (fun x => x[j]?) h8
    simp only [List.getElem?_take, if_pos hl, hu] at h9
    simpa using h9
/-- The source of an append. -/
theorem OwnC.src {w : World} {e : TypeId} {sz : Nat} {v : Value} {n : Nat} {cs : List Value} {tx e' : TypeId} (h : OwnC w e sz v n cs) (hk : P.underlying tx = some (.slice e')) : Src P sz tx v n cs w :=
  ⟨.inl ⟨e', hk⟩, fun _ => by rcases h.2.2 with ⟨rfl, rfl⟩ | ⟨g, cap, rfl, _⟩ <;> rfl, h.first, (show OwnC w.drew e sz v n cs from h).first, h.1, h.2.1⟩

theorem run_append_c (w : World) (t tx ty e : TypeId) (i : TypeInfo) (z : Value) (ht : P.underlying t = some (.slice e)) (hi : P.info? e = some i) (hz : i.zero = some z) (sz : Nat) (hs1 : i.size = sz) (hb1 : i.bytes ≤ 1000) (hz1 : z.cells.size = sz)
    (v : Value) (n m : Nat) (cs ns : List Value) (x : Value) (hown : OwnC w e sz v n cs) (hs : Src P sz tx x m ns w) (hlen : n + m ≤ 1000000000) :
    ∃ v' w', (Builtin.append_ #[t, tx] ty #[v, x]).run P w = .ok v' w' ∧ OwnC w' e sz v' (n + m) (cs ++ ns) ∧ Fr v.ownBlock.toList w w' ∧ (v'.ownBlock = v.ownBlock ∨ v'.ownBlock = some w.heap.size) := by
  have hone : ∀ u ∈ cs ++ ns, u.oneCell' = true := fun u hu => by
    rcases List.mem_append.1 hu with hu | hu
    · exact hown.2.1 u hu
    · exact hs.one u hu
  have hl2 : (cs ++ ns).length = (n + m) * sz := by rw [List.length_append, hown.1, hs.newsLen, Nat.add_mul]
  obtain ⟨ad, c, hv⟩ := hown.shape
  by_cases hroom : n + m ≤ c
  · -- there is room
    rcases hown.2.2 with ⟨rfl, rfl⟩ | ⟨g, cap, rfl, cur, fr, h1, h2, h3, h4, h6⟩
    · cases hv
      have hm : m = 0 := by omega
      subst hm
      have hns : ns = [] := List.eq_nil_of_length_eq_zero (by have := hs.newsLen; omega)
      subst hns
      have hcs : cs = [] := List.eq_nil_of_length_eq_zero (by have := hown.1; omega)
      subst hcs
      have hs2 := hs.cells
      refine ⟨.slice none 0 0, w, ?_, OwnC.nil _ _ _, Fr.refl _ _, .inl rfl⟩
      rcases hs.kind with ⟨e', hk⟩ | hk <;> simp [Builtin.append_, run_underlying ht, run_underlying hk, sizeOf, typeInfo, hi, hs.len, hs1, hs2]
    · cases hv
      have hle : (n + m) * sz ≤ c * sz := Nat.mul_le_mul_right _ hroom
      have hnl := hs.newsLen
      have hcl := hown.1
      have hadd := Nat.add_mul n m sz
      have hfree : ∀ j, j < cur.size → (w.cell? ⟨g, j, none⟩).isSome = true ∧ w.frozen? ⟨g, j, none⟩ = false := fun j hj => by
        refine ⟨by rw [cell_of_row w g j cur e fr h1]; simp [hj], ?_⟩
        have := h2 j hj
        simp only [World.frozen?, h1]
        cases fr
        simp only at this ⊢
        simp only [Bool.and_eq_false_iff, decide_eq_false_iff_not]
        omega
      have hr := run_append_room_src (P := P) w t tx ty e i ht hi g 0 n c x m ns (by rw [hs1]; exact hs) hroom
        (fun j hj => by rw [hs1]; exact (hfree (0 + n * sz + j) (by omega)).1)
        (fun j hj => by rw [hs1]; exact (hfree (0 + n * sz + j) (by omega)).2)
      rw [hs1] at hr
      simp only [Nat.zero_add] at hr
      have hfr := setCells_fr g w (n * sz) ns
      obtain ⟨cur', k1, k2, k3⟩ := setCells_row g e ns (n * sz) cur w fr h1 (by omega)
      generalize w.setCells g (n * sz) ns = w1 at hr hfr k1
      refine ⟨.slice (some ⟨g, 0, none⟩) (n + m) c, w1, hr, ⟨hl2, hone, .inr ⟨g, c, rfl, cur', fr, k1, by rw [k2]; exact h2, by omega, hroom, ?_⟩⟩, hfr, .inl rfl⟩
      refine take_of (n := (n + m) * sz) (fun i hi => ?_) hl2 (by omega)
      rw [k3 i, List.getElem?_append, hcl]
      by_cases a : i < n * sz
      · rw [if_pos a, if_pos a]
        have h7 := congrArg (fun x => x[i]?) h6
        simp only [List.getElem?_take, if_pos (show i < cs.length by omega)] at h7
        rw [← h7]; simp
      · rw [if_neg a, if_neg a, if_pos (by omega)]
  · -- a new row
    have hgr := run_append_grow_src (P := P) w t tx ty e i z ht hi hz ad n c cs (by
        have h2 := OwnC.first (P := P) (show OwnC w.drew e sz v n cs from hown)
        rw [hs1, ← hv]
        exact h2) x m ns (by rw [hs1]; exact hs) (by omega) (by omega) (growslice_fits (by omega) (by
          have : (n + m) * i.bytes ≤ 1000000000 * 1000 := Nat.mul_le_mul hlen hb1
          omega))
    rw [hv]
    have hge := grownCap_ge w (n + m) c e
    refine ⟨_, _, hgr, ⟨hl2, hone, .inr ⟨w.heap.size, grownCap w (n + m) c e, rfl, _, (0, 0), heap_alloc_new w.drew _, fun j _ h => by omega, ?_, hge, ?_⟩⟩, ?_, .inr rfl⟩
    · rw [Array.size_append, size_zeroCells, hz1]
      have e1 : (cs ++ ns).toArray.size = (n + m) * sz := by rw [← hl2]; simp
      rw [e1, ← Nat.add_mul]
      exact Nat.mul_le_mul_right _ (by omega)
    · simp only [Array.toList_append]
      exact List.take_left
    · exact ((Fr.refl _ w).drew).alloc _

/-- append, of elements of whatever size: the walk's law. -/
theorem wpList_append_c (w : World) {ops : Array Oper} {rest : List Oper} {o : Oper} {a : Act} {Q : Exit → Act → World → Prop}
    (hg : o.guard = none) (s x : Operand) (t tx : TypeId) (hop : o.op = Op.call { callee := Callee.builtin Builtin.append, args := #[s, x], argTypes := #[t, tx] })
    (e : TypeId) (i : TypeInfo) (z : Value) (h1 : P.underlying t = some (.slice e)) (h2 : P.info? e = some i) (h3 : i.zero = some z) (sz : Nat) (h4 : i.size = sz) (h5 : i.bytes ≤ 1000) (h6 : z.cells.size = sz)
    (v : Value) (n m : Nat) (cs ns : List Value) (xv : Value) (hv : a.eval s = v) (hx : a.eval x = xv) (hown : OwnC w e sz v n cs) (hs : Src P sz tx xv m ns w) (hlen : n + m ≤ 1000000000)
    (hK : ∀ v' w', OwnC w' e sz v' (n + m) (cs ++ ns) → Fr v.ownBlock.toList w w' → (v'.ownBlock = v.ownBlock ∨ v'.ownBlock = some w.heap.size) → wpList P ops Q rest (a.put o.dst v') w') :
    wpList P ops Q (o :: rest) a w := by
  refine wpList_plain hg fun K hK' => ?_
  obtain ⟨v', w', hrun, r1, r2, r3⟩ := run_append_c (P := P) w t tx o.type e i z h1 h2 h3 sz h4 h5 h6 v n m cs ns xv hown hs hlen
  unfold Oper.wp
  simp [execOp, hop, resolve, invoke, builtin, hv, hx, hrun, Result.andThen]
  exact hK' _ _ (hK v' w' r1 r2 r3)
end
end Go.Proofs.YtpkkgngpjeoffaaGreatDoor
namespace Go.Proofs.YtpkkgngpjeoffaaGreatDoor
open Go.RowKit

section
variable {P : Program}
theorem wp_append_c (w : World) {o : Oper} {a : Act} {K : Act → World → Prop} {Q : Exit → Act → World → Prop}
    (s x : Operand) (t tx : TypeId) (hop : o.op = Op.call { callee := Callee.builtin Builtin.append, args := #[s, x], argTypes := #[t, tx] })
    (e : TypeId) (i : TypeInfo) (z : Value) (h1 : P.underlying t = some (.slice e)) (h2 : P.info? e = some i) (h3 : i.zero = some z) (sz : Nat) (h4 : i.size = sz) (h5 : i.bytes ≤ 1000) (h6 : z.cells.size = sz)
    (v : Value) (n m : Nat) (cs ns : List Value) (xv : Value) (hv : a.eval s = v) (hx : a.eval x = xv) (hown : OwnC w e sz v n cs) (hs : Src P sz tx xv m ns w) (hlen : n + m ≤ 1000000000)
    (hK : ∀ v' w', OwnC w' e sz v' (n + m) (cs ++ ns) → Fr v.ownBlock.toList w w' → (v'.ownBlock = v.ownBlock ∨ v'.ownBlock = some w.heap.size) → K (a.put o.dst v') w') :
    o.wp P a w K Q := by
  obtain ⟨v', w', hrun, r1, r2, r3⟩ := run_append_c (P := P) w t tx o.type e i z h1 h2 h3 sz h4 h5 h6 v n m cs ns xv hown hs hlen
  unfold Oper.wp
  simp [execOp, hop, resolve, invoke, builtin, hv, hx, hrun, Result.andThen]
  exact hK v' w' r1 r2 r3

/-- The one element that was laid just ahead, as a source. -/
theorem src_new (w : World) (tx e' e : TypeId) (hk : P.underlying tx = some (.slice e')) (sz : Nat) (c1 : Array Value) (hc : c1.size = sz) (h1 : ∀ u ∈ c1.toList, u.oneCell' = true) : Src P sz tx (.slice (some ⟨w.heap.size, 0, none⟩) 1 1) 1 c1.toList (w.alloc (.cells c1 e)) :=
  Src.ofSlice _ (e' := e') hk ⟨w.heap.size, 0, none⟩ 1 1 c1.toList (by simp [hc]) (fun j u hu => by
    have hadd : (⟨w.heap.size, 0, none⟩ : Addr).add j = ⟨w.heap.size, j, none⟩ := by unfold Addr.add; split <;> simp_all
    rw [hadd, cell_of_row _ w.heap.size j c1 e (0, 0) (heap_alloc_new w _)]
    simpa using hu) h1

/-- append(s, E{..}): one element, of whatever size: at a walk's list. -/
theorem wpApp1C (w : World) {ops : Array Oper} {rest : List Oper} {o : Oper} {a : Act} {Q : Exit → Act → World → Prop}
    (hg : o.guard = none) (s x : Operand) (t : TypeId) (hop : o.op = Op.call { callee := Callee.builtin Builtin.append, args := #[s, x], argTypes := #[t, t] })
    (e : TypeId) (i : TypeInfo) (z : Value) (h1 : P.underlying t = some (.slice e)) (h2 : P.info? e = some i) (h3 : i.zero = some z) (sz : Nat) (h4 : i.size = sz) (h5 : i.bytes ≤ 1000) (h6 : z.cells.size = sz)
    (v : Value) (n : Nat) (cs : List Value) (c1 : Array Value) (hc : c1.size = sz) (ho1 : ∀ u ∈ c1.toList, u.oneCell' = true) (hv : a.eval s = v) (hx : a.eval x = .slice (some ⟨w.heap.size, 0, none⟩) 1 1) (hown : OwnC w e sz v n cs) (hlen : n + 1 ≤ 1000000000)
    (hK : ∀ v' w', OwnC w' e sz v' (n + 1) (cs ++ c1.toList) → Fr v.ownBlock.toList w w' → (v'.ownBlock = v.ownBlock ∨ ∃ g, v'.ownBlock = some g ∧ w.heap.size ≤ g) → wpList P ops Q rest (a.put o.dst v') w') :
    wpList P ops Q (o :: rest) a (w.alloc (.cells c1 e)) := by
  have hal : Fr [] w (w.alloc (.cells c1 e)) := (Fr.refl _ _).alloc _
  refine wpList_append_c _ hg s x t t hop e i z h1 h2 h3 sz h4 h5 h6 v n 1 cs c1.toList _ hv hx (hown.fr hal (by simp)) (src_new w t e e h1 sz c1 hc ho1) hlen (fun v' w' k1 k2 k3 => hK v' w' k1 ?_ ?_)
  · exact (hal.sub (T := v.ownBlock.toList) (by simp)).step k2 (fun t ht => .inl ht)
  · rcases k3 with k | k
    · exact .inl k
    · exact .inr ⟨_, k, by simp⟩
/-- .. at a step of a region that draws. -/
theorem stepApp1C (w : World) {ops : Array Oper} {o : Oper} {a : Act} {K : Act → World → Prop} {Q : Exit → Act → World → Prop} {E : Prop}
    (hg : o.guard = none) (s x : Operand) (t : TypeId) (hop : o.op = Op.call { callee := Callee.builtin Builtin.append, args := #[s, x], argTypes := #[t, t] })
    (e : TypeId) (i : TypeInfo) (z : Value) (h1 : P.underlying t = some (.slice e)) (h2 : P.info? e = some i) (h3 : i.zero = some z) (sz : Nat) (h4 : i.size = sz) (h5 : i.bytes ≤ 1000) (h6 : z.cells.size = sz)
    (v : Value) (n : Nat) (cs : List Value) (c1 : Array Value) (hc : c1.size = sz) (ho1 : ∀ u ∈ c1.toList, u.oneCell' = true) (hv : a.eval s = v) (hx : a.eval x = .slice (some ⟨w.heap.size, 0, none⟩) 1 1) (hown : OwnC w e sz v n cs) (hlen : n + 1 ≤ 1000000000)
    (hK : ∀ v' w', OwnC w' e sz v' (n + 1) (cs ++ c1.toList) → Fr v.ownBlock.toList w w' → (v'.ownBlock = v.ownBlock ∨ ∃ g, v'.ownBlock = some g ∧ w.heap.size ≤ g) → K (a.put o.dst v') w') :
    if Region.wanted o (yielded ops a.tmps) = true then Oper.wp P o a (w.alloc (.cells c1 e)) K Q else E := by
  have hw : Region.wanted o (yielded ops a.tmps) = true := by simp [Region.wanted, hg]
  rw [if_pos hw]
  have hal : Fr [] w (w.alloc (.cells c1 e)) := (Fr.refl _ _).alloc _
  refine wp_append_c _ s x t t hop e i z h1 h2 h3 sz h4 h5 h6 v n 1 cs c1.toList _ hv hx (hown.fr hal (by simp)) (src_new w t e e h1 sz c1 hc ho1) hlen (fun v' w' k1 k2 k3 => hK v' w' k1 ?_ ?_)
  · exact (hal.sub (T := v.ownBlock.toList) (by simp)).step k2 (fun t ht => .inl ht)
  · rcases k3 with k | k
    · exact .inl k
    · exact .inr ⟨_, k, by simp⟩
end
end Go.Proofs.YtpkkgngpjeoffaaGreatDoor
