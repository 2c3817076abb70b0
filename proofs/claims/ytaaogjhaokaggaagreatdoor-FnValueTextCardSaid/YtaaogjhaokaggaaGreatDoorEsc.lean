import Derived.Test.YtaaogjhaokaggaaGreatDoorQuo3
import Derived.Test.YtaaogjhaokaggaaGreatDoorEscC
import Derived.Lib.OthersKept
namespace Go.Proofs.YtaaogjhaokaggaaGreatDoor
open Go.RowKit

/-- A new variable of a type with a known zero. -/
theorem wpAlloc (w : World) {ops : Array Oper} {rest : List Oper} {o : Oper} {a : Act} {Q : Exit → Act → World → Prop}
    (hg : o.guard = none) (ty : TypeId) (hop : o.op = Op.alloc ty) (z : Value) (hz : (Tryz.prog.info? ty).bind (·.zero) = some z)
    (hK : ∀ w', w'.heap[w.heap.size]? = some (.cells z.cells ty (0, 0)) → Fr [] w w' → w'.heap.size = w.heap.size + 1 → wpList Tryz.prog ops Q rest (a.put o.dst (.pointer (some ⟨w.heap.size, 0, none⟩))) w') :
    wpList Tryz.prog ops Q (o :: rest) a w := by
  refine wpList_plain hg fun K hK' => ?_
  have hrun : (Instr.alloc ty true (.tuple #[])).run Tryz.prog w = .ok (.pointer (some ⟨w.heap.size, 0, none⟩)) (w.alloc (.cells z.cells ty)) := by
    obtain ⟨i, hi, hz'⟩ := Option.bind_eq_some_iff.1 hz
    simp [Instr.alloc, zeroValue, typeInfo, hi, hz', newVar, newRow]
  unfold Oper.wp
  simp only [execOp, hop]
  rw [Sem.run_bind, hrun]
  simp [Result.andThen]
  exact hK' _ _ (hK _ (heap_alloc_new w _) ((Fr.refl _ _).alloc _) (by simp))

theorem fr_iter (w : World) (s : ByteArray) (p : Nat) : Fr [] w (w.iter s p) := (Fr.refl [] w).alloc (.stringIter s p)
theorem fr_iterAt (w : World) (k : Nat) (s : ByteArray) (p : Nat) : Fr [k] w (w.iterAt k s p) :=
  ⟨rfl, rfl, rfl, by simp [World.iterAt], fun j _ hj => by simp only [World.iterAt]; simp at hj; simp [Ne.symm hj]⟩

/-- What a new escaper's cells are. -/
def ez : Array Value := (Array.replicate 512 (.int .u8 0)).push (.string ⟨#[]⟩)
theorem info175 : (Tryz.prog.info? 175).bind (·.zero) = some (.agg ez) := by kernel_rfl

def xOf (c : UInt8) : UInt8 := if c = 10 then 110 else if c = 13 then 114 else if c = 9 then 116 else c
theorem qOf_x (c : UInt8) (q : List UInt8) (hq : qOf c = some q) : (q = [xOf c] ∧ xOf c ≠ 92) ∨ q = [92, xOf c] := by
  unfold qOf at hq
  split at hq
  · subst_vars; cases hq; exact .inr rfl
  split at hq
  · subst_vars; cases hq; exact .inr rfl
  split at hq
  · subst_vars; cases hq; exact .inr rfl
  split at hq
  · subst_vars; cases hq; exact .inr rfl
  split at hq
  · rename_i h1 h2 h3 h4 h
    cases hq
    have : xOf c = c := by simp [xOf, h2, h3, h4]
    rw [this]
    exact .inl ⟨rfl, h1⟩
  · cases hq

/-- The cells of an escaper behind some bytes. -/
def escCells (l : List UInt8) : Array Value := l.foldl (fun a c => (a.setIfInBounds c.toNat (.int .u8 ((xOf c).toNat : Int))).setIfInBounds (256 + (xOf c).toNat) (.int .u8 (c.toNat : Int))) ez
theorem escCells_snoc (l : List UInt8) (c : UInt8) : escCells (l ++ [c]) = ((escCells l).setIfInBounds c.toNat (.int .u8 ((xOf c).toNat : Int))).setIfInBounds (256 + (xOf c).toNat) (.int .u8 (c.toNat : Int)) := by
  simp [escCells]
theorem escCells_size (l : List UInt8) : (escCells l).size = 513 := by
  unfold escCells
  suffices h : ∀ (l : List UInt8) (a : Array Value), (l.foldl (fun a c => (a.setIfInBounds c.toNat (.int .u8 ((xOf c).toNat : Int))).setIfInBounds (256 + (xOf c).toNat) (.int .u8 (c.toNat : Int))) a).size = a.size by
    rw [h]; simp [ez]
  intro l
  induction l with
  | nil => intro a; rfl
  | cons c l ih => intro a; rw [List.foldl_cons, ih]; simp

theorem trim_q (c : UInt8) (q : List UInt8) (hq : qOf c = some q) (w : World) :
    Calls Tryz.prog 133 #[.string ⟨q.toArray⟩, .string ⟨#[92]⟩] w fun e w' => e = .returned (.string ⟨#[xOf c]⟩) ∧ w = w' := by
  rcases qOf_x c q hq with ⟨h1, h2⟩ | h1
  · subst h1; exact trim_one _ h2 w
  · subst h1; exact trim_two _ w

theorem slice_mid {a b : UInt8} (q : List UInt8) (wx : World) : (Instr.slice 9 (.string ⟨([a] ++ q ++ [b]).toArray⟩) (some (.int .i64 1)) (some (.int .i64 (((⟨([a] ++ q ++ [b]).toArray⟩ : ByteArray).size : Int) - 1))) none).run Tryz.prog wx = .ok (.string ⟨q.toArray⟩) wx := by
  have hsz : (⟨([a] ++ q ++ [b]).toArray⟩ : ByteArray).size = q.length + 2 := by show ([a] ++ q ++ [b]).toArray.size = _; simp
  rw [hsz, show (((q.length + 2 : Nat) : Int) - 1) = ((q.length + 1 : Nat) : Int) by omega]
  rw [run_slice_string (P := Tryz.prog) wx 9 ⟨([a] ++ q ++ [b]).toArray⟩ .i64 .i64 1 ((q.length + 1 : Nat) : Int) Tryz.underlying9 (by omega) (by omega) (by rw [hsz]; omega)]
  congr 2
  apply ByteArray.ext
  rw [ByteArray.data_extract]
  apply Array.ext'
  simp

set_option maxHeartbeats 1000000 in
theorem newEscaper_any (s : ByteArray) (hq : ∀ c, c ∈ s.data.toList → (qOf c).isSome = true) (w : World) :
    Calls Tryz.prog 108 #[.string s] w fun e w' => e = .returned (.pointer (some ⟨w.heap.size, 0, none⟩)) ∧ w'.heap[w.heap.size]? = some (.cells ((escCells s.data.toList).setIfInBounds 512 (.string s)) 175 (0, 0)) ∧ Fr [] w w' := by
  have HQ := Lib.hid hq; clear hq
  go_enter Tryz.func108, Tryz.ntmps108
  go_wp2_with (with_reducible refine wpAlloc (o := ⟨some 3, _, _, _, _, _⟩) w rfl 175 rfl _ info175 ?_; intro w1 hh1 hf1 hz1)
  go_loopw [5, 6] (fun _ _ wr => ∃ k : Nat, k ≤ s.size ∧ wr.heap[w.heap.size]? = some (.cells (escCells (s.data.toList.take k)) 175 (0, 0)) ∧ wr.heap[w.heap.size + 1]? = some (.stringIter s k) ∧ Fr [] w wr)
    (fun _ _ wr => s.size - wr.iterPos (w.heap.size + 1))
  case atStart =>
    have hi1 := World.iter_heap w1 s 0
    rw [hz1] at hi1
    have hfi : Fr [] w1 (w1.iter s 0) := fr_iter w1 s 0
    exact ⟨0, Nat.zero_le _, by simpa [escCells, Value.cells] using hfi.blk hh1 (by simp), hi1, hf1.trans hfi⟩
  case round =>
    obtain ⟨k, hk, hc, hit, hf⟩ := hrel
    by_cases hlt : k < s.size
    · have hin : s[k] ∈ s.data.toList := by
        have : s.data.toList[k]? = some s[k] := by rw [Array.getElem?_toList]; exact Array.getElem?_eq_getElem hlt
        exact List.mem_of_getElem? this
      obtain ⟨q, hq⟩ := Option.isSome_iff_exists.1 (HQ.out _ hin)
      have ha := (qOf_le _ _ hq).1
      have hnx : ∀ ty, (Instr.next (.pointer (some ⟨w.heap.size + 1, 0, none⟩)) true ty).run Tryz.prog wr = _ := fun ty => Lib.run_next_ascii_at wr (w.heap.size + 1) s k ty hit hlt (by omega)
      have hfa : Fr [] w (wr.iterAt (w.heap.size + 1) s (k + 1)) := hf.step (fr_iterAt wr (w.heap.size + 1) s (k + 1)) (by simp)
      have hca : (wr.iterAt (w.heap.size + 1) s (k + 1)).heap[w.heap.size]? = some (.cells (escCells (s.data.toList.take k)) 175 (0, 0)) := (fr_iterAt wr (w.heap.size + 1) s (k + 1)).blk hc (by simp)
      have hia := Lib.iterAt_heap wr (w.heap.size + 1) s k (k + 1) hit
      have hts := take_succ s k hlt
      have hes := escCells_snoc (s.data.toList.take k) s[k]
      rw [← hts] at hes
      have HES := Lib.hid hes; clear hes hts
      have HCA := Lib.hid hca; clear hca hc
      have HIA := Lib.hid hia; clear hia
      have HIT := Lib.hid hit; clear hit
      have HQQ := Lib.hid hq; clear hq
      clear hin
      obtain ⟨x, hx⟩ : ∃ x, x = xOf s[k] := ⟨_, rfl⟩
      have HX := Lib.hid hx; clear hx
      have hstep : ∀ w2 : World, Fr [] (wr.iterAt (w.heap.size + 1) s (k + 1)) w2 →
          (∃ v1, w2.cell? ⟨w.heap.size, s[k].toNat, none⟩ = some v1) ∧ (∃ v2, w2.cell? ⟨w.heap.size, 256 + x.toNat, none⟩ = some v2) ∧ w2.frozen? ⟨w.heap.size, s[k].toNat, none⟩ = false ∧ w2.frozen? ⟨w.heap.size, 256 + x.toNat, none⟩ = false ∧
          (∃ k', k' ≤ s.size ∧ k < k' ∧ ((w2.setCell ⟨w.heap.size, s[k].toNat, none⟩ (.int .u8 (x.toNat : Int))).setCell ⟨w.heap.size, 256 + x.toNat, none⟩ (.int .u8 (s[k].toNat : Int))).heap[w.heap.size]? = some (.cells (escCells (s.data.toList.take k')) 175 (0, 0)) ∧
            ((w2.setCell ⟨w.heap.size, s[k].toNat, none⟩ (.int .u8 (x.toNat : Int))).setCell ⟨w.heap.size, 256 + x.toNat, none⟩ (.int .u8 (s[k].toNat : Int))).heap[w.heap.size + 1]? = some (.stringIter s k') ∧
            Fr [] w ((w2.setCell ⟨w.heap.size, s[k].toNat, none⟩ (.int .u8 (x.toNat : Int))).setCell ⟨w.heap.size, 256 + x.toNat, none⟩ (.int .u8 (s[k].toNat : Int)))) := by
        intro w2 h2
        have c2 := h2.blk HCA.out (by simp)
        have hsz := escCells_size (s.data.toList.take k)
        have hx2 := x.toNat_lt
        refine ⟨⟨(escCells (s.data.toList.take k))[s[k].toNat], ?_⟩, ⟨(escCells (s.data.toList.take k))[256 + x.toNat], ?_⟩, frozen_of_row _ _ _ _ _ c2, frozen_of_row _ _ _ _ _ c2, k + 1, by omega, by omega, ?_, ?_, ?_⟩
        · rw [cell_of_row w2 _ _ _ _ _ c2]; simp
        · rw [cell_of_row w2 _ _ _ _ _ c2]; simp
        · rw [HES.out]
          have a1 := heap_setCell_same w2 w.heap.size s[k].toNat _ 175 (.int .u8 (x.toNat : Int)) c2
          have a2 := heap_setCell_same _ w.heap.size (256 + x.toNat) _ 175 (.int .u8 (s[k].toNat : Int)) a1
          rw [a2, HX.out]
        · rw [heap_setCell_other _ _ _ _ (by simp), heap_setCell_other _ _ _ _ (by simp)]
          exact h2.blk HIA.out (by simp)
        · exact (((hfa.trans h2)).setCell (.inr (Nat.le_refl _)) _).setCell (.inr (Nat.le_refl _)) _
      have HST := Lib.hid hstep; clear hstep
      have htrim : ∀ w2, Calls Tryz.prog 133 #[.string ⟨q.toArray⟩, .string ⟨#[92]⟩] w2 fun e w' => e = .returned (.string ⟨#[x]⟩) ∧ w2 = w' := fun w2 => by rw [HX.out]; exact trim_q _ _ HQQ.out w2
      have hquo : ∀ w2, Calls Tryz.prog 132 #[.int .i32 (s[k].toNat : Int)] w2 fun e w' => e = .returned (.string ⟨([39] ++ q ++ [39]).toArray⟩) ∧ Fr [] w2 w' := fun w2 => quoteRune_any _ _ HQQ.out w2
      have hqx := qOf_x _ _ HQQ.out
      rw [← HX.out] at hqx
      have hsl : ∀ wx, (Instr.slice 9 (.string ⟨([39] ++ q ++ [39]).toArray⟩) (some (.int .i64 1)) (some (.int .i64 (((⟨([39] ++ q ++ [39]).toArray⟩ : ByteArray).size : Int) - 1))) none).run Tryz.prog wx = .ok (.string ⟨q.toArray⟩) wx := fun wx => by
        rcases hqx with ⟨rfl, _⟩ | rfl
        · exact slice_mid (a := 39) (b := 39) [x] wx
        · exact slice_mid (a := 39) (b := 39) [92, x] wx
      obtain ⟨S, hS⟩ : ∃ S : ByteArray, S = ⟨([39] ++ q ++ [39]).toArray⟩ := ⟨_, rfl⟩
      have hSs : 2 ≤ S.size := by rw [hS]; show 2 ≤ ([39] ++ q ++ [39]).toArray.size; simp
      have hSt : S.size ≤ 100 := by have := (qOf_le _ _ HQQ.out).2; rw [hS]; show ([39] ++ q ++ [39]).toArray.size ≤ 100; simp; omega
      rw [← hS] at hsl hquo
      obtain ⟨U, hU⟩ : ∃ U : ByteArray, U = ⟨q.toArray⟩ := ⟨_, rfl⟩
      rw [← hU] at hsl htrim
      clear hS hU hqx
      have hix : ∀ wx, (Instr.index 9 (.string ⟨#[x]⟩) (.int .i64 0)).run Tryz.prog wx = .ok (.int .u8 (x.toNat : Int)) wx := fun wx => by
        simp [go_sem, Tryz.underlying9]
        rfl
      obtain ⟨V, hV⟩ : ∃ V : ByteArray, V = ⟨#[x]⟩ := ⟨_, rfl⟩
      rw [← hV] at hix htrim
      clear hV
      have HT := Lib.hid htrim; clear htrim
      have hx256 : (x.toNat : Int) < 256 := by have := x.toNat_lt; omega
      have hs256 : (s[k].toNat : Int) < 256 := by omega
      have hx256 : (x.toNat : Int) < 256 := by have := x.toNat_lt; omega
      have hs256 : (s[k].toNat : Int) < 256 := by omega
      have HQU := Lib.hid hquo; clear hquo
      go_upto_region 6 with (go_at_call 132; refine (HQU.out _).mono ?_; rintro e w2 ⟨rfl, hw2⟩; obtain ⟨⟨v1, c1⟩, ⟨v2, c2⟩, z1, z2, hend⟩ := HST.out w2 hw2; have HEND := Lib.hid hend; clear hend)
      go_wp2_with fail
      refine (HT.out _).mono ?_
      rintro e w3 ⟨rfl, rfl⟩
      go_wp2
      have hp0 : wr.iterPos (w.heap.size + 1) = k := by simp [World.iterPos, HIT.out]
      go_roundw
      case rel =>
        obtain ⟨k', h1, _, h3, h4, h5⟩ := HEND.out
        exact ⟨k', h1, h3, h4, h5⟩
      case measure =>
        obtain ⟨k', h1, h2, h3, h4, h5⟩ := HEND.out
        rw [hp0]
        have hp1 : ∀ ww : World, ww.heap[w.heap.size + 1]? = some (.stringIter s k') → ww.iterPos (w.heap.size + 1) = k' := fun ww h => by simp [World.iterPos, h]
        rw [hp1 _ h4]
        omega
    · have hnx : ∀ ty, (Instr.next (.pointer (some ⟨w.heap.size + 1, 0, none⟩)) true ty).run Tryz.prog wr = _ := fun ty => Lib.run_next_end_at wr (w.heap.size + 1) s k ty hit hlt
      obtain ⟨v, hv⟩ : ∃ v, wr.cell? ⟨w.heap.size, 512, none⟩ = some v := ⟨_, by rw [cell_of_row wr _ _ _ _ _ hc]; exact Array.getElem?_eq_getElem (by rw [escCells_size]; omega)⟩
      have hz := frozen_of_row wr w.heap.size 512 _ 175 hc
      have hend := heap_setCell_same wr w.heap.size 512 _ 175 (.string s) hc
      have hfe : Fr [] w (wr.setCell ⟨w.heap.size, 512, none⟩ (.string s)) := hf.setCell (.inr (Nat.le_refl _)) _
      have : k = s.size := by omega
      subst this
      rw [List.take_of_length_le (Nat.le_of_eq (by simp))] at hend
      have HE := Lib.hid hend; clear hend hc hit
      go_wp2
      go_ret
      exact ⟨rfl, HE.out, hfe⟩
end Go.Proofs.YtaaogjhaokaggaaGreatDoor
