import Derived.Test.YtaaogjhaokaggaaGreatDoorGlN
import Derived.RegionTactic
import Derived.BigRegion
namespace Go.Proofs.YtaaogjhaokaggaaGreatDoor
open Go.RowKit

/-- An encoder's nine cells at the head of block b. -/
def ER (w : World) (b : Nat) (cs : Array Value) : Prop := w.heap[b]? = some (.cells cs 85 (0, 0))
theorem ER.set {w : World} {b : Nat} {cs : Array Value} (h : ER w b cs) (i : Nat) (v : Value) : ER (w.setCell ⟨b, i, none⟩ v) b (cs.setIfInBounds i v) := heap_setCell_same w b i cs 85 v h
theorem ER.cell {w : World} {b : Nat} {cs : Array Value} (h : ER w b cs) (i : Nat) : w.cell? ⟨b, i, none⟩ = cs[i]? := cell_of_row w b i cs 85 _ h
theorem ER.free {w : World} {b : Nat} {cs : Array Value} (h : ER w b cs) (i : Nat) : w.frozen? ⟨b, i, none⟩ = false := frozen_of_row w b i cs 85 h
theorem ER.fr {S : List Nat} {w w' : World} {b : Nat} {cs : Array Value} (h : ER w b cs) (f : Fr S w w') (hb : b ∉ S) : ER w' b cs := f.blk h hb
theorem ER.drew {w : World} {b : Nat} {cs : Array Value} (h : ER w b cs) : ER w.drew b cs := h
theorem ER.ne {w : World} {b : Nat} {cs : Array Value} (h : ER w b cs) {v : Value} {l : List UInt8} (ho : Own w 5 v l) : v.ownBlock ≠ some b := by
  rcases ho with ⟨rfl, _⟩ | ⟨g, cap, rfl, cur, fr, h1, _⟩
  · simp [Value.ownBlock]
  · intro e
    simp [Value.ownBlock] at e
    subst e
    unfold ER at h
    rw [h] at h1
    simp at h1
/-- What the walk is handed of the nine cells. -/
theorem ER.all {w : World} {b : Nat} {c0 c1 c2 c3 c4 c5 c6 c7 c8 : Value} (h : ER w b #[c0, c1, c2, c3, c4, c5, c6, c7, c8]) :
    (w.cell? ⟨b, 0, none⟩ = some c0 ∧ w.cell? ⟨b, 1, none⟩ = some c1 ∧ w.cell? ⟨b, 2, none⟩ = some c2 ∧ w.cell? ⟨b, 3, none⟩ = some c3 ∧ w.cell? ⟨b, 4, none⟩ = some c4 ∧ w.cell? ⟨b, 5, none⟩ = some c5 ∧ w.cell? ⟨b, 6, none⟩ = some c6 ∧ w.cell? ⟨b, 7, none⟩ = some c7 ∧ w.cell? ⟨b, 8, none⟩ = some c8) ∧
    (w.frozen? ⟨b, 0, none⟩ = false ∧ w.frozen? ⟨b, 1, none⟩ = false ∧ w.frozen? ⟨b, 2, none⟩ = false ∧ w.frozen? ⟨b, 3, none⟩ = false ∧ w.frozen? ⟨b, 4, none⟩ = false ∧ w.frozen? ⟨b, 5, none⟩ = false ∧ w.frozen? ⟨b, 6, none⟩ = false ∧ w.frozen? ⟨b, 7, none⟩ = false ∧ w.frozen? ⟨b, 8, none⟩ = false) := by
  refine ⟨⟨?_, ?_, ?_, ?_, ?_, ?_, ?_, ?_, ?_⟩, h.free _, h.free _, h.free _, h.free _, h.free _, h.free _, h.free _, h.free _, h.free _⟩
  all_goals (rw [h.cell]; rfl)

/-- A slice cut to a length. -/
def cutTo : Value → Nat → Value
  | .slice a _ c, n => .slice a n c
  | v, _ => v
theorem Own.cut {w : World} {v : Value} {l : List UInt8} (h : Own w 5 v l) (n : Nat) (hn : n ≤ l.length) : Own w 5 (cutTo v n) (l.take n) ∧ (cutTo v n).ownBlock = v.ownBlock := by
  rcases h with ⟨rfl, rfl⟩ | ⟨g, cap, rfl, cur, fr, h1, h2, h3, h4, h5, h6⟩
  · have : n = 0 := by simpa using hn
    subst this
    exact ⟨.inl ⟨rfl, rfl⟩, rfl⟩
  · refine ⟨.inr ⟨g, cap, by simp [cutTo, Nat.min_eq_left hn], cur, fr, h1, h2, h3, by simp; omega, h5, ?_⟩, rfl⟩
    have := congrArg (List.take n) h6
    rw [List.take_take, Nat.min_eq_left hn] at this
    rw [List.length_take, Nat.min_eq_left hn, this]
    simp [bvs]

set_option maxHeartbeats 2000000 in
set_option maxRecDepth 100000 in
theorem setErr_0n (b : Nat) (a : Option Addr) (n cap : Nat) (vk : Value) (sec : Int) (lax bad : Bool) (pi : Int) (mul : Value) (ev : Value) (w : World)
    (h : ER w b #[.slice a n cap, vk, .int .i64 0, .int .u8 sec, .bool lax, .bool bad, .nilIface, .int .i64 pi, mul]) :
    Calls Tryz.prog 114 #[.pointer (some ⟨b, 0, none⟩), .iface 195 ev] w fun e w' => e = .returned (.tuple #[]) ∧ ER w' b #[.slice a 0 cap, vk, .int .i64 0, .int .u8 0, .bool lax, .bool true, .iface 195 ev, .int .i64 pi, mul] ∧ Fr [b] w w' := by
  obtain ⟨⟨c0, c1, c2, c3, c4, c5, c6, c7, c8⟩, f0, f1, f2, f3, f4, f5, f6, f7, f8⟩ := h.all
  have H := Lib.hid h; clear h
  go_enter Tryz.func114, Tryz.ntmps114
  go_wp2
  go_region
  all_goals
    go_wp2
    go_end0
    refine ⟨rfl, (((H.out.set 5 (.bool true)).set 6 (.iface 195 ev)).set 0 (.slice a 0 cap)).set 3 (.int .u8 0), ?_⟩
    refine Fr.drew ?_
    repeat (refine Fr.setCell ?_ (.inl (by simp)) _)
    exact Fr.refl _ _

set_option maxHeartbeats 2000000 in
set_option maxRecDepth 100000 in
theorem setErr_0s (b : Nat) (a : Option Addr) (n cap : Nat) (vk : Value) (sec : Int) (lax bad : Bool) (pi : Int) (mul : Value) (t : TypeId) (x : Value) (ev : Value) (w : World)
    (h : ER w b #[.slice a n cap, vk, .int .i64 0, .int .u8 sec, .bool lax, .bool bad, .iface t x, .int .i64 pi, mul]) :
    Calls Tryz.prog 114 #[.pointer (some ⟨b, 0, none⟩), .iface 195 ev] w fun e w' => e = .returned (.tuple #[]) ∧ ER w' b #[.slice a 0 cap, vk, .int .i64 0, .int .u8 0, .bool lax, .bool true, .iface t x, .int .i64 pi, mul] ∧ Fr [b] w w' := by
  obtain ⟨⟨c0, c1, c2, c3, c4, c5, c6, c7, c8⟩, f0, f1, f2, f3, f4, f5, f6, f7, f8⟩ := h.all
  have H := Lib.hid h; clear h
  go_enter Tryz.func114, Tryz.ntmps114
  go_wp2
  go_region
  all_goals
    go_wp2
    go_end0
    refine ⟨rfl, ((H.out.set 5 (.bool true)).set 0 (.slice a 0 cap)).set 3 (.int .u8 0), ?_⟩
    refine Fr.drew ?_
    repeat (refine Fr.setCell ?_ (.inl (by simp)) _)
    exact Fr.refl _ _

set_option maxHeartbeats 2000000 in
set_option maxRecDepth 100000 in
theorem setErr_pn (b : Nat) (a : Option Addr) (n cap : Nat) (s0 : Nat) (h0 : 0 < s0) (h1 : s0 ≤ n) (h2 : n ≤ cap) (vk : Value) (sec : Int) (lax bad : Bool) (pi : Int) (mul : Value) (ev : Value) (w : World)
    (h : ER w b #[.slice a n cap, vk, .int .i64 s0, .int .u8 sec, .bool lax, .bool bad, .nilIface, .int .i64 pi, mul]) :
    Calls Tryz.prog 114 #[.pointer (some ⟨b, 0, none⟩), .iface 195 ev] w fun e w' => e = .returned (.tuple #[]) ∧ ER w' b #[.slice a s0 cap, vk, .int .i64 s0, .int .u8 sec, .bool lax, .bool true, .iface 195 ev, .int .i64 pi, mul] ∧ Fr [b] w w' := by
  obtain ⟨⟨c0, c1, c2, c3, c4, c5, c6, c7, c8⟩, f0, f1, f2, f3, f4, f5, f6, f7, f8⟩ := h.all
  have H := Lib.hid h; clear h
  have hne : ((s0 : Int) == 0) = false := by rw [beq_eq_false_iff_ne]; omega
  have hi0 : (0 : Int) ≤ (s0 : Int) := by omega
  go_enter Tryz.func114, Tryz.ntmps114
  go_wp2
  go_region
  all_goals
    go_wp2
    go_end0
    refine ⟨rfl, ((H.out.set 5 (.bool true)).set 6 (.iface 195 ev)).set 0 (.slice a s0 cap), ?_⟩
    refine Fr.drew ?_
    repeat (refine Fr.setCell ?_ (.inl (by simp)) _)
    exact Fr.refl _ _

set_option maxHeartbeats 2000000 in
set_option maxRecDepth 100000 in
theorem setErr_ps (b : Nat) (a : Option Addr) (n cap : Nat) (s0 : Nat) (h0 : 0 < s0) (h1 : s0 ≤ n) (h2 : n ≤ cap) (vk : Value) (sec : Int) (lax bad : Bool) (pi : Int) (mul : Value) (t : TypeId) (x : Value) (ev : Value) (w : World)
    (h : ER w b #[.slice a n cap, vk, .int .i64 s0, .int .u8 sec, .bool lax, .bool bad, .iface t x, .int .i64 pi, mul]) :
    Calls Tryz.prog 114 #[.pointer (some ⟨b, 0, none⟩), .iface 195 ev] w fun e w' => e = .returned (.tuple #[]) ∧ ER w' b #[.slice a s0 cap, vk, .int .i64 s0, .int .u8 sec, .bool lax, .bool true, .iface t x, .int .i64 pi, mul] ∧ Fr [b] w w' := by
  obtain ⟨⟨c0, c1, c2, c3, c4, c5, c6, c7, c8⟩, f0, f1, f2, f3, f4, f5, f6, f7, f8⟩ := h.all
  have H := Lib.hid h; clear h
  have hne : ((s0 : Int) == 0) = false := by rw [beq_eq_false_iff_ne]; omega
  have hi0 : (0 : Int) ≤ (s0 : Int) := by omega
  go_enter Tryz.func114, Tryz.ntmps114
  go_wp2
  go_region
  all_goals
    go_wp2
    go_end0
    refine ⟨rfl, (H.out.set 5 (.bool true)).set 0 (.slice a s0 cap), ?_⟩
    refine Fr.drew ?_
    repeat (refine Fr.setCell ?_ (.inl (by simp)) _)
    exact Fr.refl _ _

end Go.Proofs.YtaaogjhaokaggaaGreatDoor
namespace Go.Proofs.YtaaogjhaokaggaaGreatDoor
open Go.RowKit

/-- HOW AN ENCODER STANDS, as data (err: 0 none, 1 some, 2 out of range). -/
structure St where
  buf : List UInt8
  key : List UInt8
  start : Nat
  sec : Nat
  lax : Bool
  bad : Bool
  err : Nat
  mul : Int

/-- An error's value. -/
def ErrIs (B : Nat) (ea : Addr) (w : World) (v : Value) (k : Nat) : Prop :=
  (k = 0 ∧ v = .nilIface) ∨ (k = 1 ∧ ∃ a : Addr, v = .iface 195 (.pointer (some a)) ∧ B ≤ a.block ∧ ∃ ca, w.heap[a.block]? = some (.cells ca 197 (0, 0))) ∨ (k = 2 ∧ v = .iface 195 (.pointer (some ea)))
theorem ErrIs.blk {B : Nat} {ea : Addr} {w w' : World} {v : Value} {k : Nat} {S : List Nat} (h : ErrIs B ea w v k) (f : Fr S w w') (hS : ∀ s, s ∈ S → ∃ ca ta fr, w.heap[s]? = some (.cells ca ta fr) ∧ ta ≠ 197) : ErrIs B ea w' v k := by
  rcases h with h | ⟨h1, a, h2, h3, ca, h4⟩ | h
  · exact .inl h
  · refine .inr (.inl ⟨h1, a, h2, h3, ca, f.blk h4 (fun hm => ?_)⟩)
    obtain ⟨ca', ta', fr', e1, e2⟩ := hS _ hm
    rw [h4] at e1
    cases e1
    exact e2 rfl
  · exact .inr (.inr h)
theorem ErrIs.fr0 {B : Nat} {ea : Addr} {w w' : World} {v : Value} {k : Nat} (h : ErrIs B ea w v k) (f : Fr [] w w') : ErrIs B ea w' v k := h.blk f (by simp)
theorem ErrIs.frB {B : Nat} {ea : Addr} {w w' : World} {v : Value} {k b : Nat} {cs : Array Value} (h : ErrIs B ea w v k) (f : Fr [b] w w') (hr : ER w b cs) : ErrIs B ea w' v k :=
  h.blk f (fun s hs => by simp at hs; subst hs; exact ⟨_, _, _, hr, by decide⟩)
theorem ErrIs.own {B : Nat} {ea : Addr} {w w' : World} {v u : Value} {k : Nat} {l : List UInt8} (h : ErrIs B ea w v k) (f : Fr u.ownBlock.toList w w') (ho : Own w 5 u l) : ErrIs B ea w' v k :=
  h.blk f (fun s hs => by
    have hs' : u.ownBlock = some s := by simpa using hs
    rcases ho with ⟨rfl, _⟩ | ⟨g, cap, rfl, cur, fr, h1, _⟩
    · simp [Value.ownBlock] at hs'
    · simp [Value.ownBlock] at hs'; subst hs'; exact ⟨_, _, _, h1, by decide⟩)

/-- The encoder at the head of block b. -/
structure EncC (B : Nat) (ea : Addr) (w : World) (b : Nat) (st : St) (vb vk ve : Value) (pi : Int) : Prop where
  row : ER w b #[vb, vk, .int .i64 st.start, .int .u8 st.sec, .bool st.lax, .bool st.bad, ve, .int .i64 pi, .int .i64 st.mul]
  obuf : Own w 5 vb st.buf
  okey : Own w 5 vk st.key
  apart : ∀ g, vb.ownBlock = some g → vk.ownBlock ≠ some g
  lowb : ∀ g, vb.ownBlock = some g → B ≤ g
  lowk : ∀ g, vk.ownBlock = some g → B ≤ g
  low : B ≤ b
  er : ErrIs B ea w ve st.err
def Enc (B : Nat) (ea : Addr) (w : World) (b : Nat) (st : St) : Prop := ∃ vb vk ve pi, EncC B ea w b st vb vk ve pi

/-- WHAT AN ENCODER's CALL MAY TURN: its block, rows of bytes of the law's own, new blocks. -/
def FrE (B b : Nat) (w w' : World) : Prop :=
  ∃ S, Fr S w w' ∧ ∀ s, s ∈ S → B ≤ s ∧ (s = b ∨ w.heap.size ≤ s ∨ ∃ cur fr, w.heap[s]? = some (.cells cur 5 fr))
theorem FrE.refl (B b : Nat) (w : World) : FrE B b w w := ⟨[], Fr.refl _ _, by simp⟩
theorem FrE.of {B b : Nat} {w w' : World} (h : Fr [] w w') : FrE B b w w' := ⟨[], h, by simp⟩
theorem FrE.self {B b : Nat} {w w' : World} (hb : B ≤ b) (h : Fr [b] w w') : FrE B b w w' := ⟨[b], h, fun s hs => by simp at hs; subst hs; exact ⟨hb, .inl rfl⟩⟩
theorem FrE.fr {B b : Nat} {w w' : World} (h : FrE B b w w') : ∃ S, Fr S w w' ∧ ∀ s, s ∈ S → B ≤ s := by
  obtain ⟨S, h1, h2⟩ := h; exact ⟨S, h1, fun s hs => (h2 s hs).1⟩
theorem FrE.size {B b : Nat} {w w' : World} (h : FrE B b w w') : w.heap.size ≤ w'.heap.size := by obtain ⟨S, h1, _⟩ := h; exact h1.size
theorem FrE.blk {B b : Nat} {w w' : World} (h : FrE B b w w') {g : Nat} {o : Obj} (hg : w.heap[g]? = some o) (hb : g ≠ b) (h5 : ∀ cur fr, o ≠ .cells cur 5 fr) : w'.heap[g]? = some o := by
  obtain ⟨S, h1, h2⟩ := h
  refine h1.blk hg (fun hm => ?_)
  rcases (h2 g hm).2 with h | h | ⟨cur, fr, h⟩
  · exact hb h
  · have := (Array.getElem?_eq_some_iff.1 hg).1; omega
  · rw [hg] at h; exact h5 cur fr (Option.some.inj h)
theorem FrE.trans {B b : Nat} {x y z : World} (h : FrE B b x y) (k : FrE B b y z) : FrE B b x z := by
  obtain ⟨S, h1, h2⟩ := h
  obtain ⟨T, k1, k2⟩ := k
  refine ⟨S ++ T, (h1.sub (T := S ++ T) (fun s hs => .inl (List.mem_append_left _ hs))).trans (k1.sub (fun s hs => .inl (List.mem_append_right _ hs))), fun s hs => ?_⟩
  rcases List.mem_append.1 hs with hs | hs
  · exact h2 s hs
  · refine ⟨(k2 s hs).1, ?_⟩
    rcases (k2 s hs).2 with h | h | ⟨cur, fr, h⟩
    · exact .inl h
    · exact .inr (.inl (Nat.le_trans h1.size h))
    · by_cases hlt : s < x.heap.size
      · by_cases hm : s ∈ S
        · exact (h2 s hm).2
        · rw [h1.block s hlt hm] at h; exact .inr (.inr ⟨cur, fr, h⟩)
      · exact .inr (.inl (by omega))
/-- Behind an appending step on the buffer. -/
theorem FrE.stp {B b : Nat} {w w' : World} {v v' : Value} {l : List UInt8} (ho : Own w 5 v l) (hB : ∀ g, v.ownBlock = some g → B ≤ g) (h : Stp w w' v v') : FrE B b w w' := by
  refine ⟨_, h.1, fun s hs => ?_⟩
  have hs' : v.ownBlock = some s := by simpa using hs
  refine ⟨hB s hs', .inr (.inr ?_)⟩
  rcases ho with ⟨rfl, _⟩ | ⟨g, cap, rfl, cur, fr, h1, _⟩
  · simp [Value.ownBlock] at hs'
  · simp [Value.ownBlock] at hs'; subst hs'; exact ⟨cur, fr, h1⟩
theorem Gl.frE {B : Nat} {ea : Addr} {b : Nat} {w w' : World} (h : Gl B ea w) (f : FrE B b w w') : Gl B ea w' := by
  obtain ⟨S, h1, h2⟩ := f.fr; exact h.fr h1 h2

/-- The encoder stays where none of its blocks is turned. -/
theorem EncC.fr {B : Nat} {ea : Addr} {w w' : World} {b : Nat} {st : St} {vb vk ve : Value} {pi : Int} (h : EncC B ea w b st vb vk ve pi) (f : Fr [] w w') : EncC B ea w' b st vb vk ve pi :=
  { h with row := h.row.fr f (by simp), obuf := h.obuf.fr f (by simp), okey := h.okey.fr f (by simp), er := h.er.fr0 f }
theorem EncC.drew {B : Nat} {ea : Addr} {w : World} {b : Nat} {st : St} {vb vk ve : Value} {pi : Int} (h : EncC B ea w b st vb vk ve pi) : EncC B ea w.drew b st vb vk ve pi := h.fr (Fr.refl _ _).drew

/-- .. where rows of another kind alone are turned. -/
theorem EncC.frT {B : Nat} {ea : Addr} {S : List Nat} {w w' : World} {b : Nat} {st : St} {vb vk ve : Value} {pi : Int} (h : EncC B ea w b st vb vk ve pi) (f : Fr S w w') (hS : ∀ s, s ∈ S → ∃ ca ta fr, w.heap[s]? = some (.cells ca ta fr) ∧ ta ≠ 197 ∧ ta ≠ 5 ∧ ta ≠ 85) : EncC B ea w' b st vb vk ve pi := by
  have hb : b ∉ S := fun hm => by
    obtain ⟨ca, ta, fr, e1, e2, e3, e4⟩ := hS b hm
    rw [h.row] at e1; cases e1; exact e4 rfl
  have ho : ∀ {u : Value} {l : List UInt8}, Own w 5 u l → ∀ g, u.ownBlock = some g → g ∉ S := fun {u l} hu g hg hm => by
    obtain ⟨ca, ta, fr, e1, e2, e3, e4⟩ := hS g hm
    rcases hu with ⟨rfl, _⟩ | ⟨g', cap, rfl, cur, fr', h1, _⟩
    · simp [Value.ownBlock] at hg
    · simp [Value.ownBlock] at hg; subst hg; rw [h1] at e1; cases e1; exact e3 rfl
  exact ⟨h.row.fr f hb, h.obuf.fr f (ho h.obuf), h.okey.fr f (ho h.okey), h.apart, h.lowb, h.lowk, h.low, h.er.blk f (fun s hs => by obtain ⟨ca, ta, fr, e1, e2, _⟩ := hS s hs; exact ⟨ca, ta, fr, e1, e2⟩)⟩

/-- An error at this line. -/
def St.fail (st : St) (k : Nat) : St := { st with bad := true, err := if st.err = 0 then k else st.err, buf := st.buf.take st.start, sec := if st.start = 0 then 0 else st.sec }

theorem setErr_any {B : Nat} {ea : Addr} (b : Nat) (st : St) (vb vk ve : Value) (pi : Int) (x : Value) (k : Nat) (w : World) (h : EncC B ea w b st vb vk ve pi) (hx : ErrIs B ea w (.iface 195 x) k) (hs : st.start ≤ st.buf.length) :
    Calls Tryz.prog 114 #[.pointer (some ⟨b, 0, none⟩), .iface 195 x] w fun e w' => e = .returned (.tuple #[]) ∧ (∃ ve', EncC B ea w' b (st.fail k) (cutTo vb st.start) vk ve' pi) ∧ Fr [b] w w' := by
  obtain ⟨hcut, hcb⟩ := h.obuf.cut st.start hs
  have hk0 : k ≠ 0 := by rcases hx with ⟨_, h⟩ | ⟨h, _⟩ | ⟨h, _⟩ <;> simp_all
  have hvb : ∃ a n cap, vb = .slice a n cap ∧ n = st.buf.length ∧ n ≤ cap := by
    rcases h.obuf with ⟨h1, h2⟩ | ⟨g, cap, h1, cur, fr, _, _, _, h4, _⟩
    · exact ⟨none, 0, 0, h1, by rw [h2]; rfl, Nat.le_refl _⟩
    · exact ⟨_, _, _, h1, rfl, h4⟩
  obtain ⟨a, n, cap, hvb, hn, hnc⟩ := hvb
  have fin : ∀ (w' : World) (ve' : Value) (sec' : Int), sec' = ((st.fail k).sec : Int) → ErrIs B ea w ve' (st.fail k).err → ER w' b #[cutTo vb st.start, vk, .int .i64 st.start, .int .u8 sec', .bool st.lax, .bool true, ve', .int .i64 pi, .int .i64 st.mul] → Fr [b] w w' →
      (∃ ve', EncC B ea w' b (st.fail k) (cutTo vb st.start) vk ve' pi) := by
    intro w' ve' sec' h1 h2 h3 h4
    subst h1
    refine ⟨ve', h3, hcut.fr h4 (fun g hg hm => ?_), h.okey.fr h4 (fun g hg hm => ?_), fun g hg => h.apart g (hcb ▸ hg), fun g hg => h.lowb g (hcb ▸ hg), h.lowk, h.low, h2.frB h4 h.row⟩
    · simp at hm; subst hm; exact h.row.ne h.obuf (hcb ▸ hg)
    · simp at hm; subst hm; exact h.row.ne h.okey hg
  have hrow := h.row
  rw [hvb] at hrow
  have hct : cutTo vb st.start = .slice a st.start cap := by rw [hvb]; rfl
  by_cases h0 : st.start = 0
  · rw [h0] at hrow
    rcases h.er with ⟨e1, e2⟩ | he
    · rw [e2] at hrow
      refine (setErr_0n b a n cap vk st.sec st.lax st.bad pi _ x w hrow).mono ?_
      rintro e w' ⟨r1, r2, r3⟩
      refine ⟨r1, fin w' (.iface 195 x) 0 (by simp [St.fail, h0]) (by simp only [St.fail, e1, if_true]; exact hx) (by rw [hct, h0]; exact r2) r3, r3⟩
    · have hve : ∃ t y, ve = .iface t y := by rcases he with ⟨_, a, h, _⟩ | ⟨_, h⟩ <;> exact ⟨_, _, h⟩
      obtain ⟨t, y, hve⟩ := hve
      have he0 : st.err ≠ 0 := by rcases he with ⟨h, _⟩ | ⟨h, _⟩ <;> omega
      rw [hve] at hrow
      refine (setErr_0s b a n cap vk st.sec st.lax st.bad pi _ t y x w hrow).mono ?_
      rintro e w' ⟨r1, r2, r3⟩
      refine ⟨r1, fin w' ve 0 (by simp [St.fail, h0]) (by simp only [St.fail, if_neg he0]; exact h.er) (by rw [hct, h0, hve]; exact r2) r3, r3⟩
  · rcases h.er with ⟨e1, e2⟩ | he
    · rw [e2] at hrow
      refine (setErr_pn b a n cap st.start (by omega) (by omega) hnc vk st.sec st.lax st.bad pi _ x w hrow).mono ?_
      rintro e w' ⟨r1, r2, r3⟩
      refine ⟨r1, fin w' (.iface 195 x) st.sec (by simp [St.fail, h0]) (by simp only [St.fail, e1, if_true]; exact hx) (by rw [hct]; exact r2) r3, r3⟩
    · have hve : ∃ t y, ve = .iface t y := by rcases he with ⟨_, a, h, _⟩ | ⟨_, h⟩ <;> exact ⟨_, _, h⟩
      obtain ⟨t, y, hve⟩ := hve
      have he0 : st.err ≠ 0 := by rcases he with ⟨h, _⟩ | ⟨h, _⟩ <;> omega
      rw [hve] at hrow
      refine (setErr_ps b a n cap st.start (by omega) (by omega) hnc vk st.sec st.lax st.bad pi _ t y x w hrow).mono ?_
      rintro e w' ⟨r1, r2, r3⟩
      refine ⟨r1, fin w' ve st.sec (by simp [St.fail, h0]) (by simp only [St.fail, if_neg he0]; exact h.er) (by rw [hct, hve]; exact r2) r3, r3⟩

set_option maxHeartbeats 400000 in
theorem errNew_any {B : Nat} {ea : Addr} (s : ByteArray) (w : World) (hB : B ≤ w.heap.size) :
    Calls Tryz.prog 115 #[.string s] w fun e w' => ∃ x, e = .returned (.iface 195 x) ∧ ErrIs B ea w' (.iface 195 x) 1 ∧ Fr [] w w' := by
  go_enter Tryz.func115, Tryz.ntmps115
  go_wp2
  go_ret
  exact ⟨_, rfl, .inr (.inl ⟨rfl, _, rfl, hB, _, heap_alloc_new _ _⟩), (Fr.refl _ _).alloc _⟩
end Go.Proofs.YtaaogjhaokaggaaGreatDoor
