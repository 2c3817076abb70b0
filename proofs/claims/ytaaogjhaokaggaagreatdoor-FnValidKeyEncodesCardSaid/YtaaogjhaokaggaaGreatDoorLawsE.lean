import Derived.Test.YtaaogjhaokaggaaGreatDoorLawsD
namespace Go.Proofs.YtaaogjhaokaggaaGreatDoor
open Go.RowKit

section
variable {P : Program}
/-- append where there is no room: a new row; nothing that was there is turned. -/
theorem run_append_g (w : World) (t tx ty e : TypeId) (i : TypeInfo) (z : Value) (ht : P.underlying t = some (.slice e)) (hi : P.info? e = some i) (hz : i.zero = some z) (sz : Nat) (hs1 : i.size = sz) (hb1 : i.bytes ≤ 1000) (hz1 : z.cells.size = sz)
    (ad : Option Addr) (c n m : Nat) (cs ns : List Value) (x : Value) (hown : OwnC w e sz (.slice ad n c) n cs) (hs : Src P sz tx x m ns w) (hlen : n + m ≤ 1000000000) (hroom : c < n + m) :
    ∃ v' w', (Builtin.append_ #[t, tx] ty #[.slice ad n c, x]).run P w = .ok v' w' ∧ OwnC w' e sz v' (n + m) (cs ++ ns) ∧ Fr [] w w' ∧ v'.ownBlock = some w.heap.size := by
  have hone : ∀ u ∈ cs ++ ns, u.oneCell' = true := fun u hu => by
    rcases List.mem_append.1 hu with hu | hu
    · exact hown.2.1 u hu
    · exact hs.one u hu
  have hl2 : (cs ++ ns).length = (n + m) * sz := by rw [List.length_append, hown.1, hs.newsLen, Nat.add_mul]
  have hgr := run_append_grow_src (P := P) w t tx ty e i z ht hi hz ad n c cs (by
      have h2 := OwnC.first (P := P) (show OwnC w.drew e sz (.slice ad n c) n cs from hown)
      rw [hs1]
      exact h2) x m ns (by rw [hs1]; exact hs) (by omega) (by omega) (growslice_fits (by omega) (by
        have : (n + m) * i.bytes ≤ 1000000000 * 1000 := Nat.mul_le_mul hlen hb1
        omega))
  have hge := grownCap_ge w (n + m) c e
  refine ⟨_, _, hgr, ⟨hl2, hone, .inr ⟨w.heap.size, grownCap w (n + m) c e, rfl, _, (0, 0), heap_alloc_new w.drew _, fun j _ h => by omega, ?_, hge, ?_⟩⟩, ?_, rfl⟩
  · rw [Array.size_append, size_zeroCells, hz1]
    have e1 : (cs ++ ns).toArray.size = (n + m) * sz := by rw [← hl2]; simp
    rw [e1, ← Nat.add_mul]
    exact Nat.mul_le_mul_right _ (by omega)
  · simp only [Array.toList_append]
    exact List.take_left
  · exact ((Fr.refl _ w).drew).alloc _

/-- append(s[:n:n], E{..}): at a walk's list. -/
theorem wpApp1G (w : World) {ops : Array Oper} {rest : List Oper} {o : Oper} {a : Act} {Q : Exit → Act → World → Prop}
    (hg : o.guard = none) (s x : Operand) (t : TypeId) (hop : o.op = Op.call { callee := Callee.builtin Builtin.append, args := #[s, x], argTypes := #[t, t] })
    (e : TypeId) (i : TypeInfo) (z : Value) (h1 : P.underlying t = some (.slice e)) (h2 : P.info? e = some i) (h3 : i.zero = some z) (sz : Nat) (h4 : i.size = sz) (h5 : i.bytes ≤ 1000) (h6 : z.cells.size = sz)
    (ad : Option Addr) (c n : Nat) (cs : List Value) (c1 : Array Value) (hc : c1.size = sz) (ho1 : ∀ u ∈ c1.toList, u.oneCell' = true) (hv : a.eval s = .slice ad n c) (hx : a.eval x = .slice (some ⟨w.heap.size, 0, none⟩) 1 1) (hown : OwnC w e sz (.slice ad n c) n cs) (hlen : n + 1 ≤ 1000000000) (hroom : c < n + 1)
    (hK : ∀ v' w', OwnC w' e sz v' (n + 1) (cs ++ c1.toList) → Fr [] w w' → (∃ g, v'.ownBlock = some g ∧ w.heap.size ≤ g) → wpList P ops Q rest (a.put o.dst v') w') :
    wpList P ops Q (o :: rest) a (w.alloc (.cells c1 e)) := by
  have hal : Fr [] w (w.alloc (.cells c1 e)) := (Fr.refl _ _).alloc _
  refine wpList_plain hg fun K hK' => ?_
  obtain ⟨v', w', hrun, r1, r2, r3⟩ := run_append_g (P := P) _ t t o.type e i z h1 h2 h3 sz h4 h5 h6 ad c n 1 cs c1.toList _ (hown.fr hal (by simp)) (src_new w t e e h1 sz c1 hc ho1) hlen hroom
  unfold Oper.wp
  simp [execOp, hop, resolve, invoke, builtin, hv, hx, hrun, Result.andThen]
  exact hK' _ _ (hK v' w' r1 (hal.trans r2) ⟨_, r3, by simp⟩)
end
end Go.Proofs.YtaaogjhaokaggaaGreatDoor
