import Derived.Test.YtaaogjhaokaggaaGreatDoorBase
import Derived.Laws.CopyOwn
namespace Go.Proofs.YtaaogjhaokaggaaGreatDoor
open Go.RowKit

section
variable {P : Program}

/-- append onto an owned row of bytes: the walk's law. -/
theorem wpList_append_b (w : World) {ops : Array Oper} {rest : List Oper} {o : Oper} {a : Act} {Q : Exit → Act → World → Prop}
    (hg : o.guard = none) (s x : Operand) (t tx : TypeId) (hop : o.op = Op.call { callee := Callee.builtin Builtin.append, args := #[s, x], argTypes := #[t, tx] })
    (e : TypeId) (i : TypeInfo) (z : Value) (h1 : P.underlying t = some (.slice e)) (h2 : P.info? e = some i) (h3 : i.zero = some z) (h4 : i.size = 1) (h5 : i.bytes = 1) (h6 : z.cells.size = 1)
    (v : Value) (l m : List UInt8) (xv : Value) (hv : a.eval s = v) (hx : a.eval x = xv) (hown : Own w e v l) (hs : Src P 1 tx xv m.length (bvs m) w) (hlen : l.length + m.length ≤ 70368744177664)
    (hK : ∀ v' w', Own w' e v' (l ++ m) → Fr v.ownBlock.toList w w' → (v'.ownBlock = v.ownBlock ∨ v'.ownBlock = some w.heap.size) → wpList P ops Q rest (a.put o.dst v') w') :
    wpList P ops Q (o :: rest) a w := by
  refine wpList_plain hg fun K hK' => ?_
  obtain ⟨v', w', hrun, r1, r2, r3⟩ := run_append_b (P := P) w t tx o.type e i z h1 h2 h3 h4 h5 h6 v l m xv hown hs hlen
  unfold Oper.wp
  simp [execOp, hop, resolve, invoke, builtin, hv, hx, hrun, Result.andThen]
  exact hK' _ _ (hK v' w' r1 r2 r3)

/-- Rows of zero bytes. -/
def zbytes (n : Nat) : Array Value := madeCells #[.int .u8 0] n
theorem zbytes_size (n : Nat) : (zbytes n).size = n := size_madeCells _ _

/-- make([]byte, l, c). -/
theorem wpList_make_b (w : World) {ops : Array Oper} {rest : List Oper} {o : Oper} {a : Act} {Q : Exit → Act → World → Prop}
    (hg : o.guard = none) (l c : Operand) (t : TypeId) (hop : o.op = Op.makeSlice t l c)
    (e : TypeId) (i : TypeInfo) (h1 : P.underlying t = some (.slice e)) (h2 : P.info? e = some i) (h3 : i.zero = some (.int .u8 0)) (h4 : i.size = 1) (h5 : i.bytes = 1)
    (kl kc : IntKind) (L C : Int) (n m : Nat) (hl : a.eval l = .int kl L) (hc : a.eval c = .int kc C) (hL : L = (n : Int)) (hC : C = (m : Int)) (hnm : n ≤ m) (b : m ≤ 70368744177664)
    (hK : ∀ w', w'.heap[w.heap.size]? = some (.cells (zbytes m) e (0, 0)) → Fr [] w w' → wpList P ops Q rest (a.put o.dst (.slice (some ⟨w.heap.size, 0, none⟩) n m)) w') :
    wpList P ops Q (o :: rest) a w := by
  refine wpList_plain hg fun K hK' => ?_
  subst hL; subst hC
  have hrun := run_make (P := P) w t e i (.int .u8 0) h1 h2 h3 kl kc n m (by omega) (by omega) (by rw [h5]; omega) (by omega)
  simp only [Int.toNat_natCast, h4, Nat.mul_one] at hrun
  unfold Oper.wp
  simp only [execOp, hop, hl, hc]
  rw [Sem.run_bind, hrun]
  simp [Result.andThen]
  exact hK' _ _ (hK _ (heap_alloc_new w _) ((Fr.refl _ _).alloc _))

/-- copy of an owned row of bytes to the head of another row. -/
theorem wpList_copy_b (w : World) {ops : Array Oper} {rest : List Oper} {o : Oper} {a : Act} {Q : Exit → Act → World → Prop}
    (hg : o.guard = none) (d s : Operand) (t : TypeId) (hop : o.op = .call { callee := .builtin .copy, args := #[d, s], argTypes := #[t, t] })
    (e : TypeId) (h1 : P.underlying t = some (.slice e)) (h2 : (P.info? e).map (·.size) = some 1)
    (g cap : Nat) (v : Value) (l : List UInt8) (hd : a.eval d = .slice (some ⟨g, 0, none⟩) l.length cap) (hs : a.eval s = v) (hown : Own w e v l) (cur : Array Value) (hgc : w.heap[g]? = some (.cells cur e (0, 0)))
    (hcap : cap = cur.size) (hlc : l.length ≤ cap) (hm : cap ≤ maxLen)
    (hK : ∀ w', Row w' e g cap l → (∃ cur', w'.heap[g]? = some (.cells cur' e (0, 0))) → Fr [g] w w' → wpList P ops Q rest (a.put o.dst (goInt l.length)) w') :
    wpList P ops Q (o :: rest) a w := by
  subst hcap
  rcases hown with ⟨rfl, rfl⟩ | ⟨g', c', rfl, hr⟩
  · refine wpList_copy_nothing hg d s t t hop e h1 h2 _ none _ _ 0 0 hd hs rfl (hK w ⟨cur, (0, 0), hgc, fun j _ h => by omega, Nat.le_refl _, Nat.zero_le _, hm, by simp [bvs]⟩ ⟨cur, hgc⟩ (Fr.refl _ _))
  · refine wpList_copy_own hg d s t t hop e h1 h2 g 0 l.length cur.size ⟨g', 0, none⟩ l.length c' hd hs cur e hgc (bvs l) (by simp [bvs]) (fun j u hu => ?_) (by simpa [bvs] using hlc) (bvs_one l) ?_
    · have hj : j < l.length := by
        have := (List.getElem?_eq_some_iff.1 hu).1
        simpa [bvs] using this
      have hadd : (⟨g', 0, none⟩ : Addr).add j = ⟨g', j, none⟩ := by unfold Addr.add; split <;> simp_all
      rw [hadd, hr.cell hj, ← hu, bvs_at hj]
    · rw [bvs_length]
      have hh := setRow_heap w g cur (cur.toList.take 0 ++ (bvs l ++ cur.toList.drop (0 + l.length))).toArray e (0, 0) hgc
      have hfr : Fr [g] w (w.setRow g (cur.toList.take 0 ++ (bvs l ++ cur.toList.drop (0 + l.length))).toArray) := ⟨rfl, rfl, rfl, by simp, fun k _ hs => setRow_other w g k _ (by simpa using hs)⟩
      refine hK _ ⟨_, (0, 0), hh, fun j _ h => by omega, ?_, hlc, hm, ?_⟩ ⟨_, hh⟩ hfr
      · simp [bvs]; omega
      · simp only [List.take_zero, List.nil_append]
        rw [← bvs_length l]
        exact List.take_left
end
end Go.Proofs.YtaaogjhaokaggaaGreatDoor
