import Derived.Test.YtaaogjhaokaggaaGreatDoorPut
import Derived.Test.YtaaogjhaokaggaaGreatDoorLawX
import Derived.Recover
import Derived.Defers
import Derived.Deep.RegionHeld3
import Derived.Deep.LoopGhost
import Derived.Deep.RegionLaw
import Derived.WideLaws
namespace Go.Proofs.YtaaogjhaokaggaaGreatDoor
open Go.RowKit

/-- A call of an encoder: none: refused. -/
def PutD.step (F : Nat → List UInt8) (st : St) (p : PutD) : Option St :=
  if p.op = 0 ∨ p.op = 9 then some (st.line p.key.data.toList)
  else if p.op = 1 ∨ p.op = 10 then some (st.tag p.key.data.toList p.value.data.toList)
  else if p.op = 2 ∨ p.op = 11 then p.v.made.map (st.field F p.key.data.toList)
  else if p.op = 3 then some (st.endl (if p.flag then none else some (p.n + p.more)))
  else if p.op = 4 then some { st with err := 0 }
  else if p.op = 5 then some { st with buf := [], sec := 0, err := 0 }
  else if p.op = 6 then (if 0 ≤ p.n ∧ p.n ≤ 3 then some { st with mul := ticks p.n.toNat } else none)
  else if p.op = 7 then some { st with lax := p.flag }
  else if p.op = 8 then some { st with buf := p.key.data.toList, sec := 0, err := 0 }
  else some st

def St0 : St := ⟨[], [], 0, 0, false, false, 0, 0⟩
/-- How an encoder stands behind the first k calls. -/
def sts (F : Nat → List UInt8) (l : List PutD) : Nat → Option St
  | 0 => some St0
  | k + 1 => (sts F l k).bind fun st => (l[k]?).bind fun p => p.step F st
def stood (st : St) : List Value := [.bool (st.err != 0), .bool (st.err == 2), .int .i64 st.buf.length]
def stoodL (F : Nat → List UInt8) (l : List PutD) : Nat → List Value
  | 0 => []
  | k + 1 => stoodL F l k ++ (match sts F l (k + 1) with | some st => stood st | none => [])

/-- The walk of one call. -/
def PutSaid (F : Nat → List UInt8) (st : St) (p : PutD) : Prop := ∀ (B : Nat) (ea : Addr) (b : Nat) (w : World), Gl B ea w → Enc B ea w b st →
  Calls Tryz.prog 45 #[.pointer (some ⟨b, 0, none⟩), .agg p.cells] w fun e w' => match p.step F st with
    | some st' => e = .returned (.bool true) ∧ Mid B ea b st' w w'
    | none => e = .returned (.bool false) ∧ Fr [] w w'

/-- A slice of calls in memory. -/
def PutsIn (w : World) (v : Value) (l : List PutD) : Prop := (l = [] ∧ ∃ a c, v = .slice a 0 c) ∨ ∃ g off cap cur fr, v = .slice (some ⟨g, off, none⟩) l.length cap ∧ w.heap[g]? = some (.cells cur 38 fr) ∧ ∀ i p, l[i]? = some p → ∀ j u, p.cells[j]? = some u → cur[off + i * 12 + j]? = some u

theorem recover_idle (a b c : Addr) (w : World) :
    CallsD Tryz.prog 44 #[.pointer (some a), .pointer (some b), .pointer (some c)] .returning w fun e u' w' => e = .returned (.tuple #[]) ∧ u' = .returning ∧ w' = w := by
  refine callsD_of_wpS Tryz.func44 rfl fun c₀ cs hu => ?_
  apply wpS_seq
  apply wpS_region
  simp [wpOpsS, go_sem, recoverD, hu, Tryz.ntmps44, Exit.thenS]
  refine wpS_cond (t := false) (by simp [Act.eval, Array.replicate]) ?_
  simp only [Bool.false_eq_true, if_false]
  refine wpS_of_wp (wp_skip ?_)
  cases c₀
  simp_all [bodyPostS, results, Tryz.results44]
end Go.Proofs.YtaaogjhaokaggaaGreatDoor
namespace Go.Proofs.YtaaogjhaokaggaaGreatDoor
open Go.RowKit

/-- How the world stands at the head of Encode's loop (N: the heap's size when Encode began). -/
structure LoopAt (F : Nat → List UInt8) (ea : Addr) (l : List PutD) (w : World) (k : Nat) (st : St) (vl : Value) (wr : World) : Prop where
  ks : sts F l k = some st
  enc : Enc w.heap.size ea wr (w.heap.size + 3) st
  fr : Fr [] w wr
  tb : wr.heap[w.heap.size]? = some (.cells #[.string ⟨#[]⟩] 9 (0, 0))
  lb : wr.heap[w.heap.size + 1]? = some (.cells #[vl] 45 (0, 0))
  ob : wr.heap[w.heap.size + 2]? = some (.cells #[.bool false] 4 (0, 0))
  own : OwnC wr 49 3 vl k (stoodL F l k)
  new : ∀ g, vl.ownBlock = some g → w.heap.size + 4 ≤ g

theorem Gl.base {B : Nat} {ea : Addr} {w : World} (h : Gl B ea w) : Gl w.heap.size ea w :=
  { h with low := Nat.le_trans h.low h.big, big := Nat.le_refl _, eaB := Nat.lt_of_lt_of_le h.eaB h.big }
theorem PutsIn.fr {w w' : World} {v : Value} {l : List PutD} (h : PutsIn w v l) (f : Fr [] w w') : PutsIn w' v l := by
  rcases h with h | ⟨g, off, cap, cur, fr, rfl, h1, h2⟩
  · exact .inl h
  · exact .inr ⟨g, off, cap, cur, fr, rfl, f.blk h1 (by simp), h2⟩
theorem PutsIn.at {w : World} {v : Value} {l : List PutD} (h : PutsIn w v l) (hl : 0 < l.length) : ∃ g off cap, v = .slice (some ⟨g, off, none⟩) l.length cap ∧ ∀ i p, l[i]? = some p → ∀ j u, p.cells[j]? = some u → w.cell? ⟨g, off + i * 12 + j, none⟩ = some u := by
  rcases h with ⟨rfl, _⟩ | ⟨g, off, cap, cur, fr, rfl, h1, h2⟩
  · simp at hl
  · exact ⟨g, off, cap, rfl, fun i p hp j u hu => by rw [cell_of_row w g _ cur 38 fr h1]; exact h2 i p hp j u hu⟩
/-- Behind a call of the encoder's. -/
theorem LoopAt.mid {F : Nat → List UInt8} {ea : Addr} {l : List PutD} {w : World} {k : Nat} {st : St} {vl : Value} {wr w2 : World} (h : LoopAt F ea l w k st vl wr) (hm : FrE w.heap.size (w.heap.size + 3) wr w2) :
    Fr [] w w2 ∧ w2.heap[w.heap.size]? = some (.cells #[.string ⟨#[]⟩] 9 (0, 0)) ∧ w2.heap[w.heap.size + 1]? = some (.cells #[vl] 45 (0, 0)) ∧ w2.heap[w.heap.size + 2]? = some (.cells #[.bool false] 4 (0, 0)) ∧ OwnC w2 49 3 vl k (stoodL F l k) := by
  obtain ⟨S, h1, h2⟩ := hm.fr
  refine ⟨h.fr.step h1 (fun t ht => .inr (h2 t ht)), hm.blk h.tb (by omega) (by intro cur fr e; cases e), hm.blk h.lb (by omega) (by intro cur fr e; cases e), hm.blk h.ob (by omega) (by intro cur fr e; cases e), ?_⟩
  obtain ⟨k1, k2, k3⟩ := h.own
  refine ⟨k1, k2, ?_⟩
  rcases k3 with k3 | ⟨g, cap, rfl, cur, fr, k4, k5⟩
  · exact .inl k3
  · have := h.new g rfl
    exact .inr ⟨g, cap, rfl, cur, fr, hm.blk k4 (by omega) (by intro cur fr e; cases e), k5⟩
theorem LoopAt.fr0 {F : Nat → List UInt8} {ea : Addr} {l : List PutD} {w : World} {k : Nat} {st : St} {vl : Value} {wr w2 : World} (h : LoopAt F ea l w k st vl wr) (f : Fr [] wr w2) : LoopAt F ea l w k st vl w2 :=
  ⟨h.ks, h.enc.fr f, h.fr.trans f, f.blk h.tb (by simp), f.blk h.lb (by simp), f.blk h.ob (by simp), h.own.fr f (by simp), h.new⟩

theorem neq_nil {B : Nat} {ea : Addr} (ve : Value) (k : Nat) (w : World) {w0 : World} (h : ErrIs B ea w0 ve k) : (binOp .neq 83 ve .nilIface).run Tryz.prog w = .ok (.bool (k != 0)) w := by
  rcases h with ⟨rfl, rfl⟩ | ⟨rfl, a, rfl, _⟩ | ⟨rfl, rfl⟩
  · kernel_rfl
  · exact run_neq_held_nil (P := Tryz.prog) (w := w) 83 195 _ (by kernel_rfl)
  · exact run_neq_held_nil (P := Tryz.prog) (w := w) 83 195 _ (by kernel_rfl)

theorem guard_nil {B : Nat} {ea : Addr} (ve : Value) (k : Nat) (w : World) {w0 : World} (h : ErrIs B ea w0 ve k) : (eqGuard .neq 83 (.tmp 19) (.const .nilIface) ve .nilIface).run Tryz.prog w = .ok () w := by
  rcases h with ⟨rfl, rfl⟩ | ⟨rfl, a, rfl, _⟩ | ⟨rfl, rfl⟩
  all_goals first | rfl | kernel_rfl | simp [eqGuard]

/-- What Encode answers. -/
def EncRes (F : Nat → List UInt8) (l : List PutD) (w : World) (e : Ending) (w' : World) : Prop := Fr [] w w' ∧ match sts F l l.length with
  | some st => ∃ vl, e = .returned (.tuple #[.string ⟨st.buf.toArray⟩, vl, .bool true]) ∧ OwnC w' 49 3 vl l.length (stoodL F l l.length)
  | none => e = .returned (.tuple #[.string ⟨#[]⟩, .slice none 0 0, .bool false])

theorem sts_none {F : Nat → List UInt8} {l : List PutD} {k : Nat} (h : sts F l k = none) : ∀ j, k ≤ j → sts F l j = none := by
  intro j hj
  induction j with
  | zero => have : k = 0 := by omega
            subst this; exact h
  | succ j ih =>
    by_cases hk : k = j + 1
    · subst hk; exact h
    · simp only [sts]
      rw [ih (by omega)]
      rfl

theorem LoopAt.next {F : Nat → List UInt8} {ea : Addr} {l : List PutD} {w : World} {k : Nat} {st st' : St} {a5 a6 : Option Addr} {cp5 cp6 nb : Nat} {wr w2 w5 : World} (h : LoopAt F ea l w k st (.slice a5 k cp5) wr)
    (HB : Fr [] w w2 ∧ w2.heap[w.heap.size]? = some (.cells #[.string ⟨#[]⟩] 9 (0, 0)) ∧ w2.heap[w.heap.size + 1]? = some (.cells #[.slice a5 k cp5] 45 (0, 0)) ∧ w2.heap[w.heap.size + 2]? = some (.cells #[.bool false] 4 (0, 0)) ∧ OwnC w2 49 3 (.slice a5 k cp5) k (stoodL F l k))
    (hE : Enc w.heap.size ea w2 (w.heap.size + 3) st') (bo1 bo2 : Bool) (hbo : bo1 = (st'.err != 0) ∧ bo2 = (st'.err == 2)) (hnb : nb = st'.buf.length)
    (ho : OwnC w5 49 3 (.slice a6 (k + 1) cp6) (k + 1) (stoodL F l k ++ #[Value.bool bo1, .bool bo2, .int .i64 nb].toList)) (hf : Fr (Value.slice a5 k cp5).ownBlock.toList w2.drew w5)
    (hb : (Value.slice a6 (k + 1) cp6).ownBlock = (Value.slice a5 k cp5).ownBlock ∨ ∃ g, (Value.slice a6 (k + 1) cp6).ownBlock = some g ∧ w2.drew.heap.size ≤ g)
    (hr : w5.heap[w.heap.size + 1]? = some (.cells #[.slice a5 k cp5] 45 (0, 0))) (hst : sts F l (k + 1) = some st') :
    LoopAt F ea l w (k + 1) st' (.slice a6 (k + 1) cp6) (w5.setCell ⟨w.heap.size + 1, 0, none⟩ (.slice a6 (k + 1) cp6)) := by
  obtain ⟨h1, h2, h3, h4, h5⟩ := HB
  have hsz : w.heap.size + 3 < w2.heap.size := by
    obtain ⟨_, _, _, _, hE'⟩ := hE
    exact (Array.getElem?_eq_some_iff.1 hE'.row).1
  have hnew := h.new
  have hS : ∀ s, s ∈ (Value.slice a5 k cp5).ownBlock.toList → ∃ ca ta fr, w2.drew.heap[s]? = some (.cells ca ta fr) ∧ ta ≠ 197 ∧ ta ≠ 5 ∧ ta ≠ 85 := fun s hs => by
    have hs' : (Value.slice a5 k cp5).ownBlock = some s := by simpa using hs
    rcases h5.2.2 with ⟨e, _⟩ | ⟨g, cap, e, cur, fr, k4, _⟩
    · rw [e] at hs'; simp [Value.ownBlock] at hs'
    · rw [e] at hs'; simp [Value.ownBlock] at hs'; subst hs'
      exact ⟨cur, 49, fr, k4, by decide, by decide, by decide⟩
  have hno : ∀ x, x < w.heap.size + 4 → x ∉ (Value.slice a5 k cp5).ownBlock.toList := fun x hx hm => by
    have := hnew x (by simpa using hm); omega
  have f6 : Fr [w.heap.size + 1] w5 (w5.setCell ⟨w.heap.size + 1, 0, none⟩ (.slice a6 (k + 1) cp6)) := (Fr.refl [w.heap.size + 1] w5).setCell (.inl (by simp)) _
  refine ⟨hst, ?_, ?_, ?_, ?_, ?_, ?_, ?_⟩
  · obtain ⟨vb, vk, ve, pi, hE'⟩ := hE
    refine ⟨vb, vk, ve, pi, (hE'.drew.frT hf hS).frT f6 (fun s hs => ?_)⟩
    simp at hs; subst hs
    exact ⟨_, _, _, hr, by decide, by decide, by decide⟩
  · exact ((h1.drew).step hf (fun t ht => .inr (by have := hnew t (by simpa using ht); omega))).setCell (.inr (by simp)) _
  · exact f6.blk (hf.blk h2 (hno _ (by omega))) (by simp)
  · exact heap_setCell_same _ _ 0 _ 45 _ hr
  · exact f6.blk (hf.blk h4 (hno _ (by omega))) (by simp)
  · have e : stoodL F l (k + 1) = stoodL F l k ++ #[Value.bool bo1, .bool bo2, .int .i64 nb].toList := by
      rw [stoodL, hst, hbo.1, hbo.2, hnb]; rfl
    rw [e]
    refine ho.fr f6 (fun g hg hm => ?_)
    simp at hm; subst hm
    rcases hb with hb | ⟨g', hb, hb'⟩
    · rw [hb] at hg; have := hnew _ hg; omega
    · rw [hb] at hg; cases hg; simp at hb'; omega
  · intro g hg
    rcases hb with hb | ⟨g', hb, hb'⟩
    · exact hnew g (hb ▸ hg)
    · rw [hb] at hg; cases hg; simp at hb'; omega

set_option maxRecDepth 100000 in
set_option maxHeartbeats 4000000 in
theorem encode_any (F : Nat → List UInt8) {ea : Addr} {B0 : Nat} (l : List PutD) (v : Value) (w : World) (hG : Gl B0 ea w) (hP : PutsIn w v l) (hl : l.length ≤ 1000000)
    (hput : ∀ k p st, l[k]? = some p → sts F l k = some st → PutSaid F st p) :
    Calls Tryz.prog 23 #[v] w (EncRes F l w) := by
  have hmf : ∀ (fn : Fn) (first cap : Array Value) (w : World), (Instr.makeFunc fn first cap).run Tryz.prog w = .ok (.func fn first cap) w := fun _ _ _ _ => rfl
  have hsf : ∀ (a : Addr) (k : FloatKind) (b : Nat) (m : Mode) (w : World), (store a (.float k b) m).run Tryz.prog w = stored Tryz.prog w a (.float k b) m := fun a k b m w => run_store Tryz.prog w a _ m rfl
  have hshape : ∃ a c, v = .slice a l.length c := by
    rcases hP with ⟨rfl, a, c, rfl⟩ | ⟨g, off, cap, cur, fr, rfl, _⟩ <;> exact ⟨_, _, rfl⟩
  obtain ⟨a, c, rfl⟩ := hshape
  have HP := Lib.hid hP
  have HPUT := Lib.hid hput
  have HG := Lib.hid hG.base
  clear hP hput hG
  have HST : Hid (LoopAt F ea l w 0 St0 (.slice none 0 0) ((((w.alloc (Obj.cells #[Value.string { data := #[] }] 9)).alloc (Obj.cells #[Value.slice none 0 0] 45)).alloc (Obj.cells #[Value.bool false] 4)).alloc (.cells #[Value.slice none 0 0, Value.slice none 0 0, Value.int IntKind.i64 0, Value.int IntKind.u8 0, Value.bool false, Value.bool false, Value.nilIface, Value.int IntKind.i64 0, Value.int IntKind.i64 0] 85))) := Lib.hid (by
    have f1 := (Fr.refl [] w).alloc (Obj.cells #[Value.string { data := #[] }] 9)
    have e1 : (w.alloc (Obj.cells #[Value.string { data := #[] }] 9)).heap.size = w.heap.size + 1 := by simp
    obtain ⟨w1, hw1⟩ : ∃ x, x = w.alloc (Obj.cells #[Value.string { data := #[] }] 9) := ⟨_, rfl⟩
    have b1 : w1.heap[w.heap.size]? = some (.cells #[.string ⟨#[]⟩] 9 (0, 0)) := by rw [hw1]; exact heap_alloc_new _ _
    rw [← hw1] at f1 e1 ⊢
    have f2 := (Fr.refl [] w1).alloc (Obj.cells #[Value.slice none 0 0] 45)
    have b2 : (w1.alloc (Obj.cells #[Value.slice none 0 0] 45)).heap[w1.heap.size]? = _ := heap_alloc_new _ _
    have e2 : (w1.alloc (Obj.cells #[Value.slice none 0 0] 45)).heap.size = w1.heap.size + 1 := by simp
    obtain ⟨w2, hw2⟩ : ∃ x, x = w1.alloc (Obj.cells #[Value.slice none 0 0] 45) := ⟨_, rfl⟩
    rw [← hw2] at f2 b2 e2 ⊢
    have f3 := (Fr.refl [] w2).alloc (Obj.cells #[Value.bool false] 4)
    have b3 : (w2.alloc (Obj.cells #[Value.bool false] 4)).heap[w2.heap.size]? = _ := heap_alloc_new _ _
    have e3 : (w2.alloc (Obj.cells #[Value.bool false] 4)).heap.size = w2.heap.size + 1 := by simp
    obtain ⟨w3, hw3⟩ : ∃ x, x = w2.alloc (Obj.cells #[Value.bool false] 4) := ⟨_, rfl⟩
    rw [← hw3] at f3 b3 e3 ⊢
    obtain ⟨E, hE⟩ : ∃ E, E = (Obj.cells #[Value.slice none 0 0, Value.slice none 0 0, Value.int IntKind.i64 0, Value.int IntKind.u8 0, Value.bool false, Value.bool false, Value.nilIface, Value.int IntKind.i64 0, Value.int IntKind.i64 0] 85) := ⟨_, rfl⟩
    rw [← hE]
    have f4 := (Fr.refl [] w3).alloc E
    have b4 : (w3.alloc E).heap[w3.heap.size]? = _ := heap_alloc_new _ _
    have n3 : w3.heap.size = w.heap.size + 3 := by omega
    have n2 : w2.heap.size = w.heap.size + 2 := by omega
    rw [n3] at b4
    rw [n2] at b3
    rw [e1] at b2
    rw [hE] at f4 b4
    rw [hE]
    refine ⟨rfl, ⟨.slice none 0 0, .slice none 0 0, .nilIface, 0, b4, Own.nil _ _, Own.nil _ _, by simp [Value.ownBlock], by simp [Value.ownBlock], by simp [Value.ownBlock], by omega, .inl ⟨rfl, rfl⟩⟩, ((f1.trans f2).trans f3).trans f4, ((f2.trans f3).trans f4).blk b1 (by simp), (f3.trans f4).blk b2 (by simp), f4.blk b3 (by simp), OwnC.nil _ _ _, by simp [Value.ownBlock]⟩)
  go_enter_defers Tryz.func23, Tryz.ntmps23
  go_wp2
  obtain ⟨w0, hw0⟩ : ∃ x, x = ((((w.alloc (Obj.cells #[Value.string { data := #[] }] 9)).alloc (Obj.cells #[Value.slice none 0 0] 45)).alloc (Obj.cells #[Value.bool false] 4)).alloc (.cells #[Value.slice none 0 0, Value.slice none 0 0, Value.int IntKind.i64 0, Value.int IntKind.u8 0, Value.bool false, Value.bool false, Value.nilIface, Value.int IntKind.i64 0, Value.int IntKind.i64 0] 85)) := ⟨_, rfl⟩
  rw [← hw0] at HST ⊢
  clear hw0
  go_loopw [11] (fun i wr => ∃ (k : Nat) (st : St) (vl : Value), k ≤ l.length ∧ i = .int .i64 k ∧ Hid (LoopAt F ea l w k st vl wr)) (fun i _ => l.length - (intOf i).toNat)
  case atStart => exact ⟨0, St0, _, by omega, rfl, HST⟩
  case round =>
    obtain ⟨k, st, vl, hk, rfl, HL⟩ := hrel
    obtain ⟨a5, cp5, rfl⟩ := HL.out.own.shape
    by_cases hlt : k < l.length
    · obtain ⟨p, hp⟩ : ∃ p, l[k]? = some p := ⟨l[k], by simp [hlt]⟩
      have hsaid := HPUT.out k p st hp HL.out.ks
      obtain ⟨g, off, cap, hv, hcell⟩ := (HP.out.fr HL.out.fr).at (by omega)
      have hc := hcell k p hp
      clear hcell
      obtain ⟨op, key, value, ⟨kind, s, vn, u, f, x⟩, n, m, z⟩ := p
      simp only [PutD.cells] at hc
      cases hv
      have hltI : (k : Int) < l.length := by omega
      obtain ⟨vb, vk, ve, pi, hE⟩ := HL.out.enc
      have HE := Lib.hid hE; clear hE
      have c0 : wr.cell? ⟨g, off + k * 12, none⟩ = _ := hc 0 _ rfl
      have c1 := hc 1 _ rfl
      have c2 := hc 2 _ rfl
      have c3 := hc 3 _ rfl
      have c4 := hc 4 _ rfl
      have c5 := hc 5 _ rfl
      have c6 := hc 6 _ rfl
      have c7 := hc 7 _ rfl
      have c8 := hc 8 _ rfl
      have c9 := hc 9 _ rfl
      have c10 := hc 10 _ rfl
      have c11 := hc 11 _ rfl
      have hfA : Fr [] wr (wr.alloc (.cells #[.int .i64 op, .string key, .string value, .int .i64 kind, .string s, .int .i64 vn, .int .u64 u, .float .f64 f, .bool x, .int .i64 n, .int .i64 m, .bool z] 38)) := (Fr.refl _ _).alloc _
      have hS := hsaid w.heap.size ea (w.heap.size + 3) _ (HG.out.fr (HL.out.fr.trans hfA) (by simp)) ⟨vb, vk, ve, pi, HE.out.fr hfA⟩
      simp only [PutD.cells] at hS
      cases hstep : PutD.step F st ⟨op, key, value, ⟨kind, s, vn, u, f, x⟩, n, m, z⟩ with
      | none =>
        rw [hstep] at hS
        have HS := Lib.hid hS
        have HFA := Lib.hid hfA
        have HSTEP := Lib.hid hstep
        have HPK := Lib.hid hp
        clear hS hsaid hfA hstep hp hc
        go_wp2_with (go_at_call 45; refine HS.out.mono ?_; rintro e w2 ⟨rfl, hf2⟩; have HF2 := Lib.hid (FrE.of (B := w.heap.size) (b := w.heap.size + 3) (HFA.out.trans hf2)); clear hf2; have HB2 := Lib.hid (HL.out.mid HF2.out); have d0 := cell_of_row w2 w.heap.size 0 _ 9 _ HB2.out.2.1; have g0 := frozen_of_row w2 w.heap.size 0 _ 9 HB2.out.2.1; have d1 := cell_of_row w2 (w.heap.size + 1) 0 _ 45 _ HB2.out.2.2.1; have g1 := frozen_of_row w2 (w.heap.size + 1) 0 _ 45 HB2.out.2.2.1; have d2 := cell_of_row w2 (w.heap.size + 1 + 1) 0 _ 4 _ HB2.out.2.2.2.1; have g2 := frozen_of_row w2 (w.heap.size + 1 + 1) 0 _ 4 HB2.out.2.2.2.1)
        refine leaves_cons (f := 44) (args := #[.pointer (some ⟨w.heap.size, 0, none⟩), .pointer (some ⟨w.heap.size + 1, 0, none⟩), .pointer (some ⟨w.heap.size + 1 + 1, 0, none⟩)]) (by simp) (by simp [go_sem]) ?_
        refine (recover_idle _ _ _ _).mono ?_
        rintro e u' w'' ⟨rfl, rfl, rfl⟩
        have hbad : sts F l l.length = none := sts_none (k := k + 1) (by simp only [sts]; rw [HL.out.ks, HPK.out]; exact HSTEP.out) l.length (by omega)
        simp [Leaves, settle, results, Tryz.results23, go_sem, d0, d1, d2]
        refine ⟨?_, by rw [hbad]⟩
        exact ((HB2.out.1.setCell (.inr (by simp)) _).setCell (.inr (by simp)) _).setCell (.inr (by simp; omega)) _
      | some st' =>
        rw [hstep] at hS
        have HS := Lib.hid hS
        have HFA := Lib.hid hfA
        have HSTEP := Lib.hid hstep
        have HPK := Lib.hid hp
        clear hS hsaid hfA hstep hp hc
        go_wp2_with (go_at_call 45; refine HS.out.mono ?_; rintro e w2 ⟨rfl, hm2⟩; have HM2 := Lib.hid hm2.1; have HF2 := Lib.hid ((FrE.of HFA.out).trans hm2.2); clear hm2; have HB2 := Lib.hid (HL.out.mid HF2.out); have d0 := cell_of_row w2 w.heap.size 0 _ 9 _ HB2.out.2.1; have g0 := frozen_of_row w2 w.heap.size 0 _ 9 HB2.out.2.1; have d1 := cell_of_row w2 (w.heap.size + 1) 0 _ 45 _ HB2.out.2.2.1; have g1 := frozen_of_row w2 (w.heap.size + 1) 0 _ 45 HB2.out.2.2.1; have d2 := cell_of_row w2 (w.heap.size + 1 + 1) 0 _ 4 _ HB2.out.2.2.2.1; have g2 := frozen_of_row w2 (w.heap.size + 1 + 1) 0 _ 4 HB2.out.2.2.2.1)
        have HB22 := HB2
        clear d0 g0 d1 g1 d2 g2 hmf
        obtain ⟨vb2, vk2, ve2, pi2, hE2⟩ := HM2.out
        obtain ⟨ab, nb, cb, hvb, hnb, -, -⟩ := own_shape2 hE2.obuf
        have hED := hE2.drew
        have HED := Lib.hid hED
        have HGD := Lib.hid (HG.out.fr HB2.out.1.drew (by simp))
        have HVB := Lib.hid hvb
        have HNB := Lib.hid hnb
        have hneq := fun wx => neq_nil (B := w.heap.size) (ea := ea) ve2 st'.err wx hED.er
        have hgn := fun wx => guard_nil (B := w.heap.size) (ea := ea) ve2 st'.err wx hED.er
        have hR1 : w2.drew.heap[w.heap.size + 1]? = some (.cells #[.slice a5 k cp5] 45 (0, 0)) := HB2.out.2.2.1
        have HR1 := Lib.hid hR1
        have d1 := cell_of_row w2.drew (w.heap.size + 1) 0 _ 45 _ hR1
        have hO : OwnC w2.drew 49 3 (.slice a5 k cp5) k (stoodL F l k) := HB2.out.2.2.2.2
        have HO := Lib.hid hO
        obtain ⟨i49, hi49, hz49, hs49, hb49⟩ := parts_c info49
        obtain ⟨bo1, hbo1⟩ : ∃ x, x = (st'.err != 0) := ⟨_, rfl⟩
        obtain ⟨bo2, hbo2⟩ : ∃ x, x = (st'.err == 2) := ⟨_, rfl⟩
        have HBO := Lib.hid (And.intro hbo1 hbo2)
        rw [← hbo1] at hneq
        have hout : Calls Tryz.prog 47 #[ve2] w2.drew fun e w' => e = .returned (.bool bo2) ∧ w' = w2.drew := by rw [hbo2]; exact outside_any ve2 st'.err _ HGD.out HED.out.er
        have HOUT := Lib.hid hout
        have d1b : (w2.alloc (.cells #[.bool bo1, .bool bo2, .int .i64 nb] 49)).drew.cell? ⟨w.heap.size + 1, 0, none⟩ = some (.slice a5 k cp5) := cell_of_row _ (w.heap.size + 1) 0 _ 45 _ ((((Fr.refl [] w2).alloc (.cells #[.bool bo1, .bool bo2, .int .i64 nb] 49)).drew).blk HB2.out.2.2.1 (by simp))
        clear hED hvb hnb hE2 hR1 hO hbo1 hbo2 hout
        refine wp_region_noPanic ?_
        go_region_law (first
          | (refine stepApp1C w2.drew (by rfl) _ _ _ (by rfl) 49 i49 _ Tryz.underlying45 hi49 hz49 3 hs49 hb49 rfl (.slice a5 k cp5) k (stoodL F l k) #[.bool bo1, .bool bo2, .int .i64 nb] rfl (by simp [Value.oneCell']) (by rfl) (by rfl) HO.out (by omega) ?_; intro v5 w5 ho5 hf5 hb5; obtain ⟨a6, cp6, rfl⟩ := ho5.shape; have HO5 := Lib.hid ho5; clear ho5; have HF5 := Lib.hid hf5; have HB5 := Lib.hid hb5; have hr5 := hf5.blk HR1.out (fun hm => by have := HL.out.new _ (by simpa using hm); omega); have d5 := cell_of_row w5 (w.heap.size + 1) 0 _ 45 _ hr5; have g5 := frozen_of_row w5 (w.heap.size + 1) 0 _ 45 hr5; have HR5 := Lib.hid hr5; clear hr5 hf5 hb5)
          | (go_simp; go_at_call 46; refine (err_any _ st' _ _ ve2 _ _ HED.out).mono ?_; rintro e w' ⟨rfl, rfl⟩)
          | (go_simp; go_at_call 47; refine HOUT.out.mono ?_; rintro e w' ⟨rfl, rfl⟩)
          | (go_simp; go_at_call 48; refine (bytes_any _ st' vb2 _ _ _ _ HED.out).mono ?_; rintro e w' ⟨rfl, rfl⟩; rw [HVB.out]))
        all_goals
          refine NoPanic.normal ?_
          have hnx := HL.out.next HB2.out HM2.out bo1 bo2 HBO.out HNB.out HO5.out HF5.out HB5.out HR5.out (by simp only [sts]; rw [HL.out.ks, HPK.out]; exact HSTEP.out)
          have HNX := Lib.hid hnx
          clear hnx
          go_wp2_with fail
          go_roundw
          case rel => exact ⟨k + 1, st', _, by omega, by go_num, HNX⟩
          case measure => simp [intOf]; omega
    · have hkl : k = l.length := by omega
      subst hkl
      obtain ⟨vb, vk, ve, pi, hE⟩ := HL.out.enc
      obtain ⟨ab, nb, cb, hvb, hnb, -, -⟩ := own_shape2 hE.obuf
      have hED := hE.drew
      have HED := Lib.hid hED
      have HVB := Lib.hid hvb
      have hcv : (convert 66 9 (.slice ab nb cb)).run Tryz.prog wr.drew = .ok (.string ⟨st.buf.toArray⟩) wr.drew := by rw [← hvb]; exact conv_own hED.obuf
      have d0 : wr.drew.cell? ⟨w.heap.size, 0, none⟩ = _ := cell_of_row wr.drew w.heap.size 0 _ 9 _ HL.out.tb
      have g0 : wr.drew.frozen? ⟨w.heap.size, 0, none⟩ = false := frozen_of_row wr.drew w.heap.size 0 _ 9 HL.out.tb
      have d1 : wr.drew.cell? ⟨w.heap.size + 1, 0, none⟩ = _ := cell_of_row wr.drew (w.heap.size + 1) 0 _ 45 _ HL.out.lb
      have g1 : wr.drew.frozen? ⟨w.heap.size + 1, 0, none⟩ = false := frozen_of_row wr.drew (w.heap.size + 1) 0 _ 45 HL.out.lb
      have d2 : wr.drew.cell? ⟨w.heap.size + 1 + 1, 0, none⟩ = _ := cell_of_row wr.drew (w.heap.size + 1 + 1) 0 _ 4 _ HL.out.ob
      have g2 : wr.drew.frozen? ⟨w.heap.size + 1 + 1, 0, none⟩ = false := frozen_of_row wr.drew (w.heap.size + 1 + 1) 0 _ 4 HL.out.ob
      have p0 := cell_of_row wr w.heap.size 0 _ 9 _ HL.out.tb
      have q0 := frozen_of_row wr w.heap.size 0 _ 9 HL.out.tb
      have p1 := cell_of_row wr (w.heap.size + 1) 0 _ 45 _ HL.out.lb
      have q1 := frozen_of_row wr (w.heap.size + 1) 0 _ 45 HL.out.lb
      have p2 := cell_of_row wr (w.heap.size + 1 + 1) 0 _ 4 _ HL.out.ob
      have q2 := frozen_of_row wr (w.heap.size + 1 + 1) 0 _ 4 HL.out.ob
      clear hE hvb hnb hED
      go_wp2_with fail
      refine wp_region_noPanic ?_
      go_region_law (first
        | (go_simp; go_at_call 48; refine (bytes_any _ st vb _ _ _ _ HED.out).mono ?_; rintro e w' ⟨rfl, rfl⟩; rw [HVB.out]))
      all_goals
        refine NoPanic.normal ?_
        go_wp2_with fail
        refine leaves_cons (f := 44) (args := #[.pointer (some ⟨w.heap.size, 0, none⟩), .pointer (some ⟨w.heap.size + 1, 0, none⟩), .pointer (some ⟨w.heap.size + 1 + 1, 0, none⟩)]) (by simp) (by simp [go_sem]) ?_
        refine (recover_idle _ _ _ _).mono ?_
        rintro e u' w'' ⟨rfl, rfl, rfl⟩
        simp [Leaves, settle, results, Tryz.results23, go_sem, p0, p1, p2]
        refine ⟨(((HL.out.fr.setCell (.inr (by simp)) _).setCell (.inr (by simp)) _).setCell (.inr (by simp; omega)) _).drew, ?_⟩
        rw [HL.out.ks]
        refine ⟨_, rfl, HL.out.own.fr (S := [w.heap.size, w.heap.size + 1, w.heap.size + 1 + 1]) (((((Fr.refl _ wr).setCell (.inl (by simp)) _).setCell (.inl (by simp)) _).setCell (.inl (by simp)) _).drew) (fun g hg hm => ?_)⟩
        have := HL.out.new g hg
        simp at hm
        omega
end Go.Proofs.YtaaogjhaokaggaaGreatDoor
