import Derived.Test.YtaaogjhaokaggaaGreatDoorLawsC
import Derived.Deep.AppendLies
namespace Go.Proofs.YtaaogjhaokaggaaGreatDoor
open Go.RowKit

section
variable {P : Program}
theorem wp_append_c (w : World) {o : Oper} {a : Act} {K : Act → World → Prop} {Q : Exit → Act → World → Prop}
    (s x : Operand) (t tx : TypeId) (hop : o.op = Op.call { callee := Callee.builtin Builtin.append, args := #[s, x], argTypes := #[t, tx] })
    (e : TypeId) (i : TypeInfo) (z : Value) (h1 : P.underlying t = some (.slice e)) (h2 : P.info? e = some i) (h3 : i.zero = some z) (sz : Nat) (h4 : i.size = sz) (h5 : i.bytes ≤ 1000) (h6 : z.cells.size = sz)
    (v : Value) (n m : Nat) (cs ns : List Value) (xv : Value) (hv : a.eval s = v) (hx : a.eval x = xv) (hown : OwnC w e sz v n cs) (hs : Src P sz tx xv m ns w) (hlen : n + m ≤ 1000000000)
    (hK : ∀ v' w', OwnC w' e sz v' (n + m) (cs ++ ns) → Fr v.ownBlock.toList w w' → (v'.ownBlock = v.ownBlock ∨ v'.ownBlock = some w.heap.size) → K (a.put o.dst v') w') :
    o.wp P a w K Q := by
  obtain ⟨v', w', hrun, r1, r2, r3⟩ := run_append_c (P := P) w t tx o.type e i z h1 h2 h3 sz h4 h5 h6 v n m cs ns xv hown hs hlen
  unfold Oper.wp
  simp [execOp, hop, resolve, invoke, builtin, hv, hx, hrun, Result.andThen]
  exact hK v' w' r1 r2 r3

/-- The one element that was laid just ahead, as a source. -/
theorem src_new (w : World) (tx e' e : TypeId) (hk : P.underlying tx = some (.slice e')) (sz : Nat) (c1 : Array Value) (hc : c1.size = sz) (h1 : ∀ u ∈ c1.toList, u.oneCell' = true) : Src P sz tx (.slice (some ⟨w.heap.size, 0, none⟩) 1 1) 1 c1.toList (w.alloc (.cells c1 e)) :=
  Src.ofSlice _ (e' := e') hk ⟨w.heap.size, 0, none⟩ 1 1 c1.toList (by simp [hc]) (fun j u hu => by
    have hadd : (⟨w.heap.size, 0, none⟩ : Addr).add j = ⟨w.heap.size, j, none⟩ := by unfold Addr.add; split <;> simp_all
    rw [hadd, cell_of_row _ w.heap.size j c1 e (0, 0) (heap_alloc_new w _)]
    simpa using hu) h1

/-- append(s, E{..}): one element, of whatever size: at a walk's list. -/
theorem wpApp1C (w : World) {ops : Array Oper} {rest : List Oper} {o : Oper} {a : Act} {Q : Exit → Act → World → Prop}
    (hg : o.guard = none) (s x : Operand) (t : TypeId) (hop : o.op = Op.call { callee := Callee.builtin Builtin.append, args := #[s, x], argTypes := #[t, t] })
    (e : TypeId) (i : TypeInfo) (z : Value) (h1 : P.underlying t = some (.slice e)) (h2 : P.info? e = some i) (h3 : i.zero = some z) (sz : Nat) (h4 : i.size = sz) (h5 : i.bytes ≤ 1000) (h6 : z.cells.size = sz)
    (v : Value) (n : Nat) (cs : List Value) (c1 : Array Value) (hc : c1.size = sz) (ho1 : ∀ u ∈ c1.toList, u.oneCell' = true) (hv : a.eval s = v) (hx : a.eval x = .slice (some ⟨w.heap.size, 0, none⟩) 1 1) (hown : OwnC w e sz v n cs) (hlen : n + 1 ≤ 1000000000)
    (hK : ∀ v' w', OwnC w' e sz v' (n + 1) (cs ++ c1.toList) → Fr v.ownBlock.toList w w' → (v'.ownBlock = v.ownBlock ∨ ∃ g, v'.ownBlock = some g ∧ w.heap.size ≤ g) → wpList P ops Q rest (a.put o.dst v') w') :
    wpList P ops Q (o :: rest) a (w.alloc (.cells c1 e)) := by
  have hal : Fr [] w (w.alloc (.cells c1 e)) := (Fr.refl _ _).alloc _
  refine wpList_append_c _ hg s x t t hop e i z h1 h2 h3 sz h4 h5 h6 v n 1 cs c1.toList _ hv hx (hown.fr hal (by simp)) (src_new w t e e h1 sz c1 hc ho1) hlen (fun v' w' k1 k2 k3 => hK v' w' k1 ?_ ?_)
  · exact (hal.sub (T := v.ownBlock.toList) (by simp)).step k2 (fun t ht => .inl ht)
  · rcases k3 with k | k
    · exact .inl k
    · exact .inr ⟨_, k, by simp⟩
/-- .. at a step of a region that draws. -/
theorem stepApp1C (w : World) {ops : Array Oper} {o : Oper} {a : Act} {K : Act → World → Prop} {Q : Exit → Act → World → Prop} {E : Prop}
    (hg : o.guard = none) (s x : Operand) (t : TypeId) (hop : o.op = Op.call { callee := Callee.builtin Builtin.append, args := #[s, x], argTypes := #[t, t] })
    (e : TypeId) (i : TypeInfo) (z : Value) (h1 : P.underlying t = some (.slice e)) (h2 : P.info? e = some i) (h3 : i.zero = some z) (sz : Nat) (h4 : i.size = sz) (h5 : i.bytes ≤ 1000) (h6 : z.cells.size = sz)
    (v : Value) (n : Nat) (cs : List Value) (c1 : Array Value) (hc : c1.size = sz) (ho1 : ∀ u ∈ c1.toList, u.oneCell' = true) (hv : a.eval s = v) (hx : a.eval x = .slice (some ⟨w.heap.size, 0, none⟩) 1 1) (hown : OwnC w e sz v n cs) (hlen : n + 1 ≤ 1000000000)
    (hK : ∀ v' w', OwnC w' e sz v' (n + 1) (cs ++ c1.toList) → Fr v.ownBlock.toList w w' → (v'.ownBlock = v.ownBlock ∨ ∃ g, v'.ownBlock = some g ∧ w.heap.size ≤ g) → K (a.put o.dst v') w') :
    if Region.wanted o (yielded ops a.tmps) = true then Oper.wp P o a (w.alloc (.cells c1 e)) K Q else E := by
  have hw : Region.wanted o (yielded ops a.tmps) = true := by simp [Region.wanted, hg]
  rw [if_pos hw]
  have hal : Fr [] w (w.alloc (.cells c1 e)) := (Fr.refl _ _).alloc _
  refine wp_append_c _ s x t t hop e i z h1 h2 h3 sz h4 h5 h6 v n 1 cs c1.toList _ hv hx (hown.fr hal (by simp)) (src_new w t e e h1 sz c1 hc ho1) hlen (fun v' w' k1 k2 k3 => hK v' w' k1 ?_ ?_)
  · exact (hal.sub (T := v.ownBlock.toList) (by simp)).step k2 (fun t ht => .inl ht)
  · rcases k3 with k | k
    · exact .inl k
    · exact .inr ⟨_, k, by simp⟩
end

theorem info49 : (Tryz.prog.info? 49).map (fun i => (i.zero, i.size, decide (i.bytes ≤ 1000))) = some (some (.agg #[.bool false, .bool false, .int .i64 0]), 3, true) := by kernel_rfl
theorem info38 : (Tryz.prog.info? 38).map (fun i => (i.zero, i.size, decide (i.bytes ≤ 1000))) = some (some (.agg #[.int .i64 0, .string ⟨#[]⟩, .string ⟨#[]⟩, .int .i64 0, .string ⟨#[]⟩, .int .i64 0, .int .u64 0, .float .f64 0, .bool false, .int .i64 0, .int .i64 0, .bool false]), 12, true) := by kernel_rfl
theorem parts_c {e : TypeId} {z : Value} {sz : Nat} (h : (Tryz.prog.info? e).map (fun i => (i.zero, i.size, decide (i.bytes ≤ 1000))) = some (some z, sz, true)) : ∃ i, Tryz.prog.info? e = some i ∧ i.zero = some z ∧ i.size = sz ∧ i.bytes ≤ 1000 := by
  obtain ⟨i, hi, h2⟩ := Option.map_eq_some_iff.1 h
  simp only [Prod.mk.injEq, decide_eq_true_eq] at h2
  exact ⟨i, hi, h2.1, h2.2.1, h2.2.2⟩
end Go.Proofs.YtaaogjhaokaggaaGreatDoor
