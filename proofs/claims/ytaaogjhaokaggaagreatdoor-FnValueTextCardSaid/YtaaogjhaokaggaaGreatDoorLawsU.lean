import Derived.Test.YtaaogjhaokaggaaGreatDoorLawsT
namespace Go.Proofs.YtaaogjhaokaggaaGreatDoor
open Go.RowKit

/-- A step that turned the block of v alone (or made new ones): v' lives in the same block or in a new one. -/
def Stp (w w' : World) (v v' : Value) : Prop := Fr v.ownBlock.toList w w' ∧ (v'.ownBlock = v.ownBlock ∨ ∃ g, v'.ownBlock = some g ∧ w.heap.size ≤ g)
theorem Stp.refl (w : World) (v : Value) : Stp w w v v := ⟨Fr.refl _ _, .inl rfl⟩
theorem Stp.trans {a b c : World} {x y z : Value} (h : Stp a b x y) (k : Stp b c y z) : Stp a c x z := by
  obtain ⟨h1, h2⟩ := h
  obtain ⟨k1, k2⟩ := k
  refine ⟨h1.step k1 (fun t ht => ?_), ?_⟩
  · rcases h2 with h2 | ⟨g, h2, h3⟩
    · rw [h2] at ht; exact .inl ht
    · rw [h2] at ht; simp at ht; subst ht; exact .inr h3
  · rcases k2 with k2 | ⟨g, k2, k3⟩
    · rcases h2 with h2 | h2
      · exact .inl (k2.trans h2)
      · obtain ⟨g, h2, h3⟩ := h2; exact .inr ⟨g, k2.trans h2, h3⟩
    · exact .inr ⟨g, k2, Nat.le_trans h1.size k3⟩
theorem Stp.pre {a b c : World} {x y : Value} (h : Fr [] a b) (k : Stp b c x y) : Stp a c x y :=
  (show Stp a b x x from ⟨h.sub (by simp), .inl rfl⟩).trans k
theorem Stp.post {a b c : World} {x y : Value} (h : Stp a b x y) (k : Fr [] b c) : Stp a c x y :=
  h.trans ⟨k.sub (by simp), .inl rfl⟩
theorem App.mk {w w' : World} {dst d' : Value} {r : List UInt8} (ho : Own w' 5 d' r) (hs : Stp w w' dst d') : App w dst r (.returned d') w' := ⟨d', rfl, ho, hs⟩
theorem App.pre {a b : World} {dst : Value} {r : List UInt8} {e : Ending} {w' : World} (h : Fr [] a b) (k : App b dst r e w') : App a dst r e w' := by
  obtain ⟨d', h1, h2, h3⟩ := k
  exact ⟨d', h1, h2, Stp.pre h h3⟩
/-- What lay elsewhere stays. -/
theorem Stp.own {w w' : World} {v v' u : Value} {l : List UInt8} (h : Stp w w' v v') (ho : Own w 5 u l) (hne : ∀ g, u.ownBlock = some g → v.ownBlock ≠ some g) : Own w' 5 u l :=
  ho.fr h.1 (fun g hg hm => hne g hg (by simpa using hm))

/-- append, the step as Stp. -/
theorem wpAppS (w : World) {ops : Array Oper} {rest : List Oper} {o : Oper} {a : Act} {Q : Exit → Act → World → Prop}
    (hg : o.guard = none) (s x : Operand) (tx : TypeId) (hop : o.op = Op.call { callee := Callee.builtin Builtin.append, args := #[s, x], argTypes := #[66, tx] })
    (v : Value) (l m : List UInt8) (xv : Value) (hv : a.eval s = v) (hx : a.eval x = xv) (hown : Own w 5 v l) (hs : Src Tryz.prog 1 tx xv m.length (bvs m) w) (hlen : l.length + m.length ≤ 70368744177664)
    (hK : ∀ v' w', Own w' 5 v' (l ++ m) → Stp w w' v v' → wpList Tryz.prog ops Q rest (a.put o.dst v') w') :
    wpList Tryz.prog ops Q (o :: rest) a w :=
  wpApp w hg s x tx hop v l m xv hv hx hown hs hlen (fun v' w' h1 h2 h3 => hK v' w' h1 ⟨h2, h3.imp_right fun h => ⟨_, h, Nat.le_refl _⟩⟩)

/-- append(x, c), the byte laid just ahead. -/
theorem wpApp1 (w : World) {ops : Array Oper} {rest : List Oper} {o : Oper} {a : Act} {Q : Exit → Act → World → Prop}
    (hg : o.guard = none) (s x : Operand) (hop : o.op = Op.call { callee := Callee.builtin Builtin.append, args := #[s, x], argTypes := #[66, 66] })
    (v : Value) (l : List UInt8) (n : Int) (c : UInt8) (hc : n = (c.toNat : Int)) (hv : a.eval s = v) (hx : a.eval x = .slice (some ⟨w.heap.size, 0, none⟩) 1 1) (hown : Own w 5 v l) (hlen : l.length + 1 ≤ 70368744177664)
    (hK : ∀ v' w', Own w' 5 v' (l ++ [c]) → Stp w w' v v' → wpList Tryz.prog ops Q rest (a.put o.dst v') w') :
    wpList Tryz.prog ops Q (o :: rest) a (w.alloc (.cells #[.int .u8 n] 5)) := by
  subst hc
  have hal : Fr [] w (w.alloc (.cells #[.int .u8 (c.toNat : Int)] 5)) := (Fr.refl _ _).alloc _
  exact wpAppS _ hg s x 66 hop v l [c] _ hv hx (hown.fr hal (by simp)) (srcOne _ c w.heap.size 1 (by rw [World.cell?_alloc_mark]; rfl)) hlen (fun v' w' h1 h2 => hK v' w' h1 (Stp.pre hal h2))
/-- The same, the new block's frozen mark written out. -/
theorem wpApp2 (w : World) {ops : Array Oper} {rest : List Oper} {o : Oper} {a : Act} {Q : Exit → Act → World → Prop}
    (hg : o.guard = none) (s x : Operand) (hop : o.op = Op.call { callee := Callee.builtin Builtin.append, args := #[s, x], argTypes := #[66, 66] })
    (v : Value) (l : List UInt8) (n m : Int) (c d : UInt8) (hc : n = (c.toNat : Int)) (hd : m = (d.toNat : Int)) (hv : a.eval s = v) (hx : a.eval x = .slice (some ⟨w.heap.size, 0, none⟩) 2 2) (hown : Own w 5 v l) (hlen : l.length + 2 ≤ 70368744177664)
    (hK : ∀ v' w', Own w' 5 v' (l ++ [c, d]) → Stp w w' v v' → wpList Tryz.prog ops Q rest (a.put o.dst v') w') :
    wpList Tryz.prog ops Q (o :: rest) a (w.alloc (.cells #[.int .u8 n, .int .u8 m] 5)) := by
  subst hc; subst hd
  have hal : Fr [] w (w.alloc (.cells #[.int .u8 (c.toNat : Int), .int .u8 (d.toNat : Int)] 5)) := (Fr.refl _ _).alloc _
  refine wpAppS _ hg s x 66 hop v l [c, d] _ hv hx (hown.fr hal (by simp)) (Src.ofSlice _ (e' := 5) u66 ⟨w.heap.size, 0, none⟩ 2 2 (bvs [c, d]) rfl (fun j u hu => ?_) (bvs_one _)) hlen (fun v' w' h1 h2 => hK v' w' h1 (Stp.pre hal h2))
  have hadd : (⟨w.heap.size, 0, none⟩ : Addr).add j = ⟨w.heap.size, j, none⟩ := by unfold Addr.add; split <;> simp_all
  rw [hadd, World.cell?_alloc_mark, ← hu]
  simp [bvs, bv]
end Go.Proofs.YtaaogjhaokaggaaGreatDoor
