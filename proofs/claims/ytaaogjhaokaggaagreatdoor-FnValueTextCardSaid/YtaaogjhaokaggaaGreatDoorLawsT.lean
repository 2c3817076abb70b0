import Derived.Test.YtaaogjhaokaggaaGreatDoorLaws
import Derived.Test.YtaaogjhaokaggaaGreatDoorProg
import Derived.Deep.DeepCutAuto
import Derived.Outline
namespace Go.Proofs.YtaaogjhaokaggaaGreatDoor
open Go.RowKit

theorem Tryz.info5 : (Tryz.prog.info? 5).map (fun i => (i.zero, i.size, i.bytes)) = some (some (.int .u8 0), 1, 1) := by kernel_rfl
theorem u66 : Tryz.prog.underlying 66 = some (.slice 5) := Tryz.underlying66
theorem u9 : Tryz.prog.underlying 9 = some .string := Tryz.underlying9

/-- append onto a row of bytes, at this program. -/
theorem wpApp (w : World) {ops : Array Oper} {rest : List Oper} {o : Oper} {a : Act} {Q : Exit → Act → World → Prop}
    (hg : o.guard = none) (s x : Operand) (tx : TypeId) (hop : o.op = Op.call { callee := Callee.builtin Builtin.append, args := #[s, x], argTypes := #[66, tx] })
    (v : Value) (l m : List UInt8) (xv : Value) (hv : a.eval s = v) (hx : a.eval x = xv) (hown : Own w 5 v l) (hs : Src Tryz.prog 1 tx xv m.length (bvs m) w) (hlen : l.length + m.length ≤ 70368744177664)
    (hK : ∀ v' w', Own w' 5 v' (l ++ m) → Fr v.ownBlock.toList w w' → (v'.ownBlock = v.ownBlock ∨ v'.ownBlock = some w.heap.size) → wpList Tryz.prog ops Q rest (a.put o.dst v') w') :
    wpList Tryz.prog ops Q (o :: rest) a w := by
  obtain ⟨i5, hi, hz0, hz1, hz2⟩ := info_parts Tryz.info5
  exact wpList_append_b w hg s x 66 tx hop 5 i5 _ u66 hi hz0 hz1 hz2 rfl v l m xv hv hx hown hs hlen hK

theorem wpMake (w : World) {ops : Array Oper} {rest : List Oper} {o : Oper} {a : Act} {Q : Exit → Act → World → Prop}
    (hg : o.guard = none) (l c : Operand) (hop : o.op = Op.makeSlice 66 l c)
    (L C : Int) (n m : Nat) (hl : a.eval l = .int .i64 L) (hc : a.eval c = .int .i64 C) (hL : L = (n : Int)) (hC : C = (m : Int)) (hnm : n ≤ m) (b : m ≤ 70368744177664)
    (hK : ∀ w', w'.heap[w.heap.size]? = some (.cells (zbytes m) 5 (0, 0)) → Fr [] w w' → wpList Tryz.prog ops Q rest (a.put o.dst (.slice (some ⟨w.heap.size, 0, none⟩) n m)) w') :
    wpList Tryz.prog ops Q (o :: rest) a w := by
  obtain ⟨i5, hi, hz0, hz1, hz2⟩ := info_parts Tryz.info5
  exact wpList_make_b w hg l c 66 hop 5 i5 u66 hi hz0 hz1 hz2 .i64 .i64 L C n m hl hc hL hC hnm b hK

theorem wpCopy (w : World) {ops : Array Oper} {rest : List Oper} {o : Oper} {a : Act} {Q : Exit → Act → World → Prop}
    (hg : o.guard = none) (d s : Operand) (hop : o.op = .call { callee := .builtin .copy, args := #[d, s], argTypes := #[66, 66] })
    (g cap : Nat) (v : Value) (l : List UInt8) (hd : a.eval d = .slice (some ⟨g, 0, none⟩) l.length cap) (hs : a.eval s = v) (hown : Own w 5 v l) (cur : Array Value) (hgc : w.heap[g]? = some (.cells cur 5 (0, 0)))
    (hcap : cap = cur.size) (hlc : l.length ≤ cap) (hm : cap ≤ maxLen)
    (hK : ∀ w', Row w' 5 g cap l → (∃ cur', w'.heap[g]? = some (.cells cur' 5 (0, 0))) → Fr [g] w w' → wpList Tryz.prog ops Q rest (a.put o.dst (goInt l.length)) w') :
    wpList Tryz.prog ops Q (o :: rest) a w := by
  obtain ⟨i5, hi, hz0, hz1, hz2⟩ := info_parts Tryz.info5
  exact wpList_copy_b w hg d s 66 hop 5 u66 (by rw [hi]; exact congrArg some hz1) g cap v l hd hs hown cur hgc hcap hlc hm hK

theorem srcStr (w : World) (s : ByteArray) : Src Tryz.prog 1 9 (.string s) s.data.toList.length (bvs s.data.toList) w := by
  have h := Src.ofString (P := Tryz.prog) w (tx := 9) u9 s
  have e : s.data.toList.length = s.size := by simp
  rw [e]
  exact h
/-- The source of an append that is itself a row of bytes (or a part of one from its head on). -/
theorem srcRow (w : World) {g cap c : Nat} {l : List UInt8} (m : List UInt8) (h : Row w 5 g cap l) (hm : ∀ j, j < m.length → l[j]? = m[j]?) (hml : m.length ≤ l.length) : Src Tryz.prog 1 66 (.slice (some ⟨g, 0, none⟩) m.length c) m.length (bvs m) w :=
  Src.ofSlice w (e' := 5) u66 ⟨g, 0, none⟩ m.length c (bvs m) (by simp [bvs]) (fun j u hu => by
    have hj : j < m.length := by
      have := (List.getElem?_eq_some_iff.1 hu).1
      simpa [bvs] using this
    have hadd : (⟨g, 0, none⟩ : Addr).add j = ⟨g, j, none⟩ := by unfold Addr.add; split <;> simp_all
    have e : l[j] = m[j] := by
      have := hm j hj
      simpa [List.getElem?_eq_getElem hj, List.getElem?_eq_getElem (show j < l.length by omega)] using this
    rw [hadd, h.cell (show j < l.length by omega), ← hu, bvs_at hj, e]) (bvs_one m)
/-- One byte, as the walk lays it ahead of 'append(x, c)'. -/
theorem srcOne (w : World) (c : UInt8) (g n : Nat) (h : w.cell? ⟨g, 0, none⟩ = some (.int .u8 (c.toNat : Int))) : Src Tryz.prog 1 66 (.slice (some ⟨g, 0, none⟩) 1 n) [c].length (bvs [c]) w :=
  Src.ofSlice w (e' := 5) u66 ⟨g, 0, none⟩ 1 n (bvs [c]) rfl (fun j u hu => by
    match j, hu with
    | 0, hu => simp [bvs, bv] at hu; subst hu; simpa [Addr.add] using h) (bvs_one _)

/-- WHAT AN APPENDING CALL LEAVES: the bytes r, in the same block or in a new one; nothing else is turned. -/
def App (w : World) (dst : Value) (r : List UInt8) (e : Ending) (w' : World) : Prop :=
  ∃ d', e = .returned d' ∧ Own w' 5 d' r ∧ Fr dst.ownBlock.toList w w' ∧ (d'.ownBlock = dst.ownBlock ∨ ∃ g, d'.ownBlock = some g ∧ w.heap.size ≤ g)
end Go.Proofs.YtaaogjhaokaggaaGreatDoor
