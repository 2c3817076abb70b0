import Derived.Test.YtaaogjhaokaggaaGreatDoorFlt2
import Derived.Test.YtaaogjhaokaggaaGreatDoorLawsU
import Derived.Deep.DeepCutAuto
namespace Go.Proofs.YtaaogjhaokaggaaGreatDoor
open Go.RowKit

/-- Block g holds 32 bytes; the first are ds. -/
def Dg (w : World) (g : Nat) (ds : List UInt8) : Prop := ∃ cs T, w.heap[g]? = some (.cells cs T (0, 0)) ∧ cs.size = 32 ∧ ∀ i (h : i < ds.length), cs[i]? = some (bv ds[i])
theorem Dg.fr {S : List Nat} {w w' : World} {g : Nat} {ds : List UInt8} (h : Dg w g ds) (f : Fr S w w') (hs : g ∉ S) : Dg w' g ds := by
  obtain ⟨cs, T, h1, h2⟩ := h
  exact ⟨cs, T, f.blk h1 hs, h2⟩
theorem Dg.stp {w w' : World} {g : Nat} {ds : List UInt8} {v v' : Value} (h : Dg w g ds) (f : Stp w w' v v') (hs : v.ownBlock ≠ some g) : Dg w' g ds :=
  h.fr f.1 (fun hm => hs (by simpa using hm))
theorem Dg.lt {w : World} {g : Nat} {ds : List UInt8} (h : Dg w g ds) : g < w.heap.size := by
  obtain ⟨cs, T, h1, h2⟩ := h
  exact (Array.getElem?_eq_some_iff.1 h1).1
theorem Dg.cell {w : World} {g : Nat} {ds : List UInt8} (h : Dg w g ds) {i : Nat} (hi : i < ds.length) : w.cell? ⟨g, i, none⟩ = some (bv ds[i]) := by
  obtain ⟨cs, T, h1, _, h3⟩ := h
  have := h3 i hi
  exact (cell_of_row w g i cs T (0, 0) h1).trans this
theorem Dg.src {w : World} {g : Nat} {ds : List UInt8} (h : Dg w g ds) (a n c : Nat) (hn : a + n ≤ ds.length) : Src Tryz.prog 1 66 (.slice (some ⟨g, a, none⟩) n c) ((ds.drop a).take n).length (bvs ((ds.drop a).take n)) w := by
  have hl : ((ds.drop a).take n).length = n := by simp; omega
  rw [hl]
  refine Src.ofSlice w (e' := 5) u66 ⟨g, a, none⟩ n c _ (by rw [bvs_length, hl]; omega) (fun j u hu => ?_) (bvs_one _)
  have hj : j < ((ds.drop a).take n).length := by
    have := (List.getElem?_eq_some_iff.1 hu).1
    simpa [bvs] using this
  rw [Lib.add_plain, h.cell (show a + j < ds.length by omega), ← hu, bvs_at hj]
  simp
theorem Stp.ne {w w' : World} {g : Nat} {v v' : Value} (f : Stp w w' v v') (hg : g < w.heap.size) (hs : v.ownBlock ≠ some g) : v'.ownBlock ≠ some g := by
  rcases f.2 with h | ⟨k, h, hk⟩
  · rw [h]; exact hs
  · rw [h]; intro e; simp at e; omega

def expD (x : Nat) : List UInt8 :=
  if x < 10 then [48, UInt8.ofNat (48 + x)] else if x < 100 then [UInt8.ofNat (48 + x / 10), UInt8.ofNat (48 + x % 10)] else [UInt8.ofNat (48 + x / 100), UInt8.ofNat (48 + x / 10 % 10), UInt8.ofNat (48 + x % 10)]
/-- %e of the digits. -/
def eText (neg : Bool) (ds : List UInt8) (dp : Int) : List UInt8 :=
  (if neg then [45] else []) ++ [ds.headD 48] ++ (if 2 ≤ ds.length then 46 :: ds.drop 1 else []) ++ [101] ++ (if ds = [] ∨ 1 ≤ dp then [43] else [45]) ++ expD (if ds = [] then 0 else (dp - 1).natAbs)

theorem byteOf {n : Int} {k : Nat} (h : n = (k : Int)) (hk : k < 256) : n = ((UInt8.ofNat k).toNat : Int) := by
  rw [h, UInt8.toNat_ofNat']
  congr 1
  omega

theorem wpApp3 (w : World) {ops : Array Oper} {rest : List Oper} {o : Oper} {a : Act} {Q : Exit → Act → World → Prop}
    (hg : o.guard = none) (s x : Operand) (hop : o.op = Op.call { callee := Callee.builtin Builtin.append, args := #[s, x], argTypes := #[66, 66] })
    (v : Value) (l : List UInt8) (n m p : Int) (c d e : UInt8) (hc : n = (c.toNat : Int)) (hd : m = (d.toNat : Int)) (he : p = (e.toNat : Int)) (hv : a.eval s = v) (hx : a.eval x = .slice (some ⟨w.heap.size, 0, none⟩) 3 3) (hown : Own w 5 v l) (hlen : l.length + 3 ≤ 70368744177664)
    (hK : ∀ v' w', Own w' 5 v' (l ++ [c, d, e]) → Stp w w' v v' → wpList Tryz.prog ops Q rest (a.put o.dst v') w') :
    wpList Tryz.prog ops Q (o :: rest) a (w.alloc (.cells #[.int .u8 n, .int .u8 m, .int .u8 p] 5)) := by
  subst hc; subst hd; subst he
  have hal : Fr [] w (w.alloc (.cells #[.int .u8 (c.toNat : Int), .int .u8 (d.toNat : Int), .int .u8 (e.toNat : Int)] 5)) := (Fr.refl _ _).alloc _
  refine wpAppS _ hg s x 66 hop v l [c, d, e] _ hv hx (hown.fr hal (by simp)) (Src.ofSlice _ (e' := 5) u66 ⟨w.heap.size, 0, none⟩ 3 3 (bvs [c, d, e]) rfl (fun j u hu => ?_) (bvs_one _)) hlen (fun v' w' h1 h2 => hK v' w' h1 (Stp.pre hal h2))
  have hadd : (⟨w.heap.size, 0, none⟩ : Addr).add j = ⟨w.heap.size, j, none⟩ := by unfold Addr.add; split <;> simp_all
  rw [hadd, World.cell?_alloc_mark, ← hu]
  simp [bvs, bv]
theorem Dg.src' {w : World} {g : Nat} {ds : List UInt8} (h : Dg w g ds) {n : Nat} {c : Nat} (hn : ds.length = n) {m : Nat} (hm : m = (ds.drop 1).length) : Src Tryz.prog 1 66 (.slice (some ⟨g, 1, none⟩) m c) (ds.drop 1).length (bvs (ds.drop 1)) w := by
  rcases Nat.eq_zero_or_pos ds.length with h0 | h0
  · have : ds = [] := List.length_eq_zero_iff.1 h0
    subst this; subst hm
    exact Src.ofSlice w (e' := 5) u66 ⟨g, 1, none⟩ 0 c [] rfl (fun j u hu => by simp at hu) (by simp)
  · have := h.src 1 (ds.length - 1) c (by omega)
    rw [List.take_of_length_le (by simp)] at this
    subst hm
    simpa using this
end Go.Proofs.YtaaogjhaokaggaaGreatDoor
