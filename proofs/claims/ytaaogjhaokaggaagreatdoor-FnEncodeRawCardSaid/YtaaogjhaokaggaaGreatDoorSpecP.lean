import Derived.Test.YtaaogjhaokaggaaGreatDoorRawP
import Derived.Test.YtaaogjhaokaggaaGreatDoorEncoX
namespace Go.Proofs.YtaaogjhaokaggaaGreatDoor
open Go.RowKit

theorem escM_all : ∀ c : Fin 256, escB (tOf sM) (UInt8.ofNat c.val) = spE 0 (UInt8.ofNat c.val) := by decide +kernel
theorem escK_all : ∀ c : Fin 256, escB (tOf sK) (UInt8.ofNat c.val) = spE 1 (UInt8.ofNat c.val) := by decide +kernel
theorem escV_all : ∀ c : Fin 256, escB (tOf sV) (UInt8.ofNat c.val) = spE 1 (UInt8.ofNat c.val) := by decide +kernel
theorem byte_all {P : UInt8 → Prop} (h : ∀ c : Fin 256, P (UInt8.ofNat c.val)) (c : UInt8) : P c := by
  have := h ⟨c.toNat, c.toNat_lt⟩
  simpa using this
theorem escM_eq (l : List UInt8) : esc (tOf sM) l = spEsc 0 l := by
  unfold esc spEsc; congr 1; funext c; exact byte_all (P := fun c => escB (tOf sM) c = spE 0 c) escM_all c
theorem spE_1 (q : Nat) (h0 : q ≠ 0) (h4 : q ≠ 4) (c : UInt8) : spE q c = spE 1 c := by unfold spE; simp [h0, h4]
theorem escK_eq (q : Nat) (h0 : q ≠ 0) (h4 : q ≠ 4) (l : List UInt8) : esc (tOf sK) l = spEsc q l := by
  unfold esc spEsc; congr 1; funext c; rw [spE_1 q h0 h4]; exact byte_all (P := fun c => escB (tOf sK) c = spE 1 c) escK_all c
theorem escV_eq (q : Nat) (h0 : q ≠ 0) (h4 : q ≠ 4) (l : List UInt8) : esc (tOf sV) l = spEsc q l := by
  unfold esc spEsc; congr 1; funext c; rw [spE_1 q h0 h4]; exact byte_all (P := fun c => escB (tOf sV) c = spE 1 c) escV_all c

/-- spec.Encoder. -/
structure Sp where
  buf : List UInt8
  start : Nat
  part : Nat
  bad : Bool
  key : List UInt8
  err : Bool
  out : Bool
  lax : Bool
  prec : Int
  begun : Bool
  stale : Bool
def Sp0 : Sp := ⟨[], 0, 0, false, [], false, false, false, 1, false, false⟩
/-- fails: none: the place is one of another buffer. -/
def Sp.fails (e : Sp) (o : Bool) : Option Sp :=
  if e.stale then none
  else some { e with bad := true, err := true, out := if e.err then e.out else o, buf := e.buf.take e.start, part := if e.buf.take e.start = [] then 0 else e.part }
def Sp.line (e : Sp) (k : List UInt8) : Option Sp :=
  (if e.part = 1 then ({ e with part := 1 } : Sp).fails false else some { e with part := 1 }).bind fun e2 =>
    if e.lax = false ∧ keyOk k = false then ({ e2 with key := [], start := e2.buf.length, bad := false, begun := true, stale := false } : Sp).fails false
    else some { e2 with key := [], start := e2.buf.length, bad := false, begun := true, stale := false, buf := e2.buf ++ ((if e.part ≠ 0 ∧ e.part ≠ 5 then [10] else []) ++ spEsc 0 k) }
def Sp.tag (e : Sp) (k v : List UInt8) : Option Sp :=
  if e.part ≠ 1 then e.fails false
  else if e.lax = false ∧ (keyOk k = false ∨ keyOk v = false ∨ keyLe k e.key = true) then e.fails false
  else
    let e2 : Sp := if e.lax = false then { e with key := k } else e
    some (if e.bad then e2 else { e2 with buf := e2.buf ++ ([44] ++ spEsc 1 k ++ [61] ++ spEsc 2 v) })
noncomputable def Sp.field (e : Sp) (k : List UInt8) (d : VD) : Option Sp :=
  if e.part ≠ 1 ∧ e.part ≠ 2 then e.fails false
  else if e.lax = false ∧ keyOk k = false then ({ e with part := 2 } : Sp).fails false
  else if e.bad then some { e with part := 2 }
  else some { e with part := 2, buf := e.buf ++ ([if e.part = 1 then 32 else 44] ++ spEsc 3 k ++ [61] ++ d.text) }
def Sp.endl (e : Sp) (t : Option Int) : Option Sp :=
  if e.part ≠ 2 then e.fails false
  else match t with
    | none => some (if e.bad then { e with part := 5 } else { e with part := 5, buf := e.buf ++ [10] })
    | some n =>
      if n < -9223372036854775808 ∨ n > 9223372036854775807 then ({ e with part := 5 } : Sp).fails true
      else some (if e.bad then { e with part := 5 } else { e with part := 5, buf := e.buf ++ ([32] ++ Lib.itoa (n.tdiv e.prec) ++ [10]) })
noncomputable def Sp.put (e : Sp) (p : PutD) : Option Sp :=
  if p.op = 0 ∨ p.op = 9 then e.line p.key.data.toList
  else if p.op = 1 ∨ p.op = 10 then e.tag p.key.data.toList p.value.data.toList
  else if p.op = 2 ∨ p.op = 11 then e.field p.key.data.toList p.v
  else if p.op = 3 then e.endl (if p.flag then none else some (p.n + p.more))
  else if p.op = 4 then some { e with err := false, out := false }
  else if p.op = 5 then some { e with buf := [], part := 0, err := false, out := false, stale := e.begun }
  else if p.op = 6 then some { e with prec := ticks p.n.toNat }
  else if p.op = 7 then some { e with lax := p.flag }
  else if p.op = 8 then some { e with buf := p.key.data.toList, part := 0, err := false, out := false, stale := e.begun }
  else some e
/-- What can't be a value, or a precision. -/
def spBad (p : PutD) : Bool := (decide (p.op = 2 ∨ p.op = 11) && !p.v.can) || (decide (p.op = 6) && decide (p.n < 0 ∨ 3 < p.n))

/-- The spec's encoder that goes with the code's. -/
def spOf (st : St) (p : Int) (g s : Bool) : Sp := ⟨st.buf, st.start, st.sec, st.bad, st.key, st.err != 0, st.err == 2, st.lax, p, g, s⟩
structure SpInv (st : St) (p : Int) (g s : Bool) : Prop where
  prec : (p = 1 ∧ st.mul = 0) ∨ (p = st.mul ∧ 0 < st.mul)
  ok : s = false → st.start ≤ st.buf.length
  old : s = true → st.sec = 0
  fresh : g = false → st.start = 0 ∧ s = false
def SpRel (e : Sp) (st : St) : Prop := ∃ p g s, e = spOf st p g s ∧ SpInv st p g s
theorem sprel0 : SpRel Sp0 St0 := ⟨1, false, false, rfl, .inl ⟨rfl, rfl⟩, fun _ => Nat.zero_le _, fun h => (by cases h), fun _ => ⟨rfl, rfl⟩⟩
theorem take_nil {l : List UInt8} {n : Nat} (h : n ≤ l.length) : l.take n = [] ↔ n = 0 := by
  constructor
  · intro hh
    have := congrArg List.length hh
    rw [List.length_take, List.length_nil] at this
    omega
  · intro hh; rw [hh]; rfl
theorem sp_fails (st : St) (p : Int) (g : Bool) (o : Bool) (k : Nat) (hk : (k = 1 ∧ o = false) ∨ (k = 2 ∧ o = true)) (h : st.start ≤ st.buf.length) : (spOf st p g false).fails o = some (spOf (st.fail k) p g false) := by
  obtain ⟨buf, key, start, sec, lax, bad, err, mul⟩ := st
  have e1 : (if buf.take start = [] then 0 else sec) = (if start = 0 then 0 else sec) := by
    by_cases h0 : start = 0
    · rw [if_pos h0, if_pos ((take_nil h).2 h0)]
    · rw [if_neg h0, if_neg (fun hh => h0 ((take_nil h).1 hh))]
  have e2 : true = ((if err = 0 then k else err) != 0) := by
    split
    · rcases hk with ⟨rfl, _⟩ | ⟨rfl, _⟩ <;> rfl
    · rename_i hne; rw [bne_iff_ne.2 hne]
  have e3 : (if (err != 0) = true then (err == 2) else o) = ((if err = 0 then k else err) == 2) := by
    by_cases h0 : err = 0
    · rw [if_pos h0, h0]
      rcases hk with ⟨rfl, rfl⟩ | ⟨rfl, rfl⟩ <;> rfl
    · rw [if_neg h0, if_pos (bne_iff_ne.2 h0)]
  show some (Sp.mk (buf.take start) start (if buf.take start = [] then 0 else sec) true key true (if (err != 0) = true then (err == 2) else o) lax p g false) = some (Sp.mk (buf.take start) start (if start = 0 then 0 else sec) true key ((if err = 0 then k else err) != 0) ((if err = 0 then k else err) == 2) lax p g false)
  rw [e1, e3, ← e2]
theorem sp_stale (st : St) (p : Int) (g : Bool) (o : Bool) : (spOf st p g true).fails o = none := rfl
theorem SpInv.fail {st : St} {p : Int} {g : Bool} (h : SpInv st p g false) (k : Nat) : SpInv (st.fail k) p g false :=
  ⟨h.prec, fun _ => by show st.start ≤ (st.buf.take st.start).length; have := h.ok rfl; rw [List.length_take]; omega, fun hh => (by cases hh), fun hh => h.fresh hh⟩
theorem sp_line {st : St} {p : Int} {g s : Bool} (h : SpInv st p g s) (k : List UInt8) : (spOf st p g s).line k = some (spOf (st.line k) p true false) ∧ SpInv (st.line k) p true false ∧ (st.sec = 1 → st.start ≤ st.buf.length) := by
  have h1s : st.sec = 1 → s = false := fun h1 => by
    cases s with
    | false => rfl
    | true => have := h.old rfl; omega
  have hc : st.sec = 1 → st.start ≤ st.buf.length := fun h1 => h.ok (h1s h1)
  have k1 : (if (spOf st p g s).part = 1 then ({ spOf st p g s with part := 1 } : Sp).fails false else some { spOf st p g s with part := 1 }) = some (spOf (if st.sec = 1 then ({ st with sec := 1 } : St).fail 1 else { st with sec := 1 }) p g s) := by
    show (if st.sec = 1 then _ else _) = _
    by_cases h1 : st.sec = 1
    · rw [if_pos h1, if_pos h1, h1s h1]
      exact sp_fails { st with sec := 1 } p g false 1 (.inl ⟨rfl, rfl⟩) (hc h1)
    · rw [if_neg h1, if_neg h1]; rfl
  unfold Sp.line St.line
  rw [k1]
  generalize hst2 : (if st.sec = 1 then ({ st with sec := 1 } : St).fail 1 else { st with sec := 1 }) = st2
  have hmul : st2.mul = st.mul := by rw [← hst2]; split <;> rfl
  have hlax : st2.lax = st.lax := by rw [← hst2]; split <;> rfl
  simp only [Option.bind_some]
  have hI : SpInv { st2 with key := [], start := st2.buf.length, bad := false } p true false :=
    ⟨by rw [show ({ st2 with key := [], start := st2.buf.length, bad := false } : St).mul = st2.mul from rfl, hmul]; exact h.prec, fun _ => Nat.le_refl _, fun hh => (by cases hh), fun hh => (by cases hh)⟩
  by_cases hx : st.lax = false ∧ keyOk k = false
  · rw [if_pos (show (spOf st p g s).lax = false ∧ keyOk k = false from hx), if_pos hx]
    exact ⟨sp_fails { st2 with key := [], start := st2.buf.length, bad := false } p true false 1 (.inl ⟨rfl, rfl⟩) (Nat.le_refl _), hI.fail 1, hc⟩
  · rw [if_neg (show ¬((spOf st p g s).lax = false ∧ keyOk k = false) from hx), if_neg hx]
    refine ⟨?_, ⟨hI.prec, fun _ => by simp only [List.length_append]; omega, fun hh => (by cases hh), fun hh => (by cases hh)⟩, hc⟩
    rw [escM_eq]
    rfl
theorem SpInv.notOld {st : St} {p : Int} {g s : Bool} (h : SpInv st p g s) (h0 : st.sec ≠ 0) : s = false := by
  cases s with
  | false => rfl
  | true => exact absurd (h.old rfl) h0
theorem SpInv.app {st : St} {p : Int} {g : Bool} (h : SpInv st p g false) (l : List UInt8) : SpInv { st with buf := st.buf ++ l } p g false :=
  ⟨h.prec, fun _ => by have := h.ok rfl; simp only [List.length_append]; omega, fun hh => (by cases hh), h.fresh⟩
theorem SpInv.sec {st : St} {p : Int} {g : Bool} (h : SpInv st p g false) (s : Nat) : SpInv { st with sec := s } p g false :=
  ⟨h.prec, h.ok, fun hh => (by cases hh), h.fresh⟩
theorem SpInv.key {st : St} {p : Int} {g : Bool} (h : SpInv st p g false) (k : List UInt8) : SpInv { st with key := k } p g false :=
  ⟨h.prec, h.ok, fun hh => (by cases hh), h.fresh⟩
/-- A call that isn't asked: an error behind another buffer. -/
theorem sp_failed {st : St} {p : Int} {g s : Bool} (h : SpInv st p g s) {e2 : Sp} (he : (spOf st p g s).fails false = some e2) : s = false ∧ e2 = spOf (st.fail 1) p g false ∧ SpInv (st.fail 1) p g false := by
  cases s with
  | true => cases he
  | false =>
    rw [sp_fails st p g false 1 (.inl ⟨rfl, rfl⟩) (h.ok rfl)] at he
    cases he
    exact ⟨rfl, rfl, h.fail 1⟩
theorem sp_tag {st : St} {p : Int} {g s : Bool} (h : SpInv st p g s) (k v : List UInt8) {e2 : Sp} (he : (spOf st p g s).tag k v = some e2) : e2 = spOf (st.tag k v) p g false ∧ SpInv (st.tag k v) p g false ∧ s = false := by
  unfold Sp.tag at he
  unfold St.tag
  by_cases h1 : st.sec ≠ 1
  · rw [if_pos (show (spOf st p g s).part ≠ 1 from h1)] at he
    rw [if_pos h1]
    obtain ⟨k1, k2, k3⟩ := sp_failed h he
    exact ⟨k2, k3, k1⟩
  rw [if_neg (show ¬(spOf st p g s).part ≠ 1 from h1)] at he
  rw [if_neg h1]
  have hs := h.notOld (by omega)
  subst hs
  by_cases h2 : st.lax = false ∧ (keyOk k = false ∨ keyOk v = false ∨ keyLe k st.key = true)
  · rw [if_pos (show (spOf st p g false).lax = false ∧ (keyOk k = false ∨ keyOk v = false ∨ keyLe k (spOf st p g false).key = true) from h2)] at he
    rw [if_pos h2]
    obtain ⟨k1, k2, k3⟩ := sp_failed h he
    exact ⟨k2, k3, k1⟩
  rw [if_neg (show ¬((spOf st p g false).lax = false ∧ (keyOk k = false ∨ keyOk v = false ∨ keyLe k (spOf st p g false).key = true)) from h2)] at he
  rw [if_neg h2]
  cases he
  obtain ⟨buf, key, start, sec, lax, bad, err, mul⟩ := st
  rw [escK_eq 1 (by decide) (by decide), escV_eq 2 (by decide) (by decide)]
  cases lax <;> cases bad
  · exact ⟨rfl, (h.key k).app _, rfl⟩
  · exact ⟨rfl, h.key k, rfl⟩
  · exact ⟨rfl, h.app _, rfl⟩
  · exact ⟨rfl, h, rfl⟩
theorem sp_field {st : St} {p : Int} {g s : Bool} (h : SpInv st p g s) (k : List UInt8) (d : VD) (x : Val) (hx : valText fTx x = d.text) {e2 : Sp} (he : (spOf st p g s).field k d = some e2) : e2 = spOf (st.field fTx k x) p g false ∧ SpInv (st.field fTx k x) p g false ∧ s = false := by
  unfold Sp.field at he
  unfold St.field
  by_cases h1 : st.sec ≠ 2 ∧ st.sec ≠ 1
  · rw [if_pos (show (spOf st p g s).part ≠ 1 ∧ (spOf st p g s).part ≠ 2 from ⟨h1.2, h1.1⟩)] at he
    rw [if_pos h1]
    obtain ⟨k1, k2, k3⟩ := sp_failed h he
    exact ⟨k2, k3, k1⟩
  rw [if_neg (show ¬((spOf st p g s).part ≠ 1 ∧ (spOf st p g s).part ≠ 2) from fun hh => h1 ⟨hh.2, hh.1⟩)] at he
  rw [if_neg h1]
  have hs := h.notOld (by omega)
  subst hs
  by_cases h2 : st.lax = false ∧ keyOk k = false
  · rw [if_pos (show (spOf st p g false).lax = false ∧ keyOk k = false from h2)] at he
    rw [if_pos h2]
    obtain ⟨k1, k2, k3⟩ := sp_failed (h.sec 2) he
    exact ⟨k2, k3, k1⟩
  rw [if_neg (show ¬((spOf st p g false).lax = false ∧ keyOk k = false) from h2)] at he
  rw [if_neg h2]
  obtain ⟨buf, key, start, sec, lax, bad, err, mul⟩ := st
  rw [hx, escK_eq 3 (by decide) (by decide)]
  cases bad <;> cases he
  · exact ⟨rfl, (h.sec 2).app _, rfl⟩
  · exact ⟨rfl, h.sec 2, rfl⟩
theorem sp_endl {st : St} {p : Int} {g s : Bool} (h : SpInv st p g s) (t : Option Int) {e2 : Sp} (he : (spOf st p g s).endl t = some e2) : e2 = spOf (st.endl t) p g false ∧ SpInv (st.endl t) p g false ∧ s = false := by
  unfold Sp.endl at he
  unfold St.endl
  by_cases h1 : st.sec ≠ 2
  · rw [if_pos (show (spOf st p g s).part ≠ 2 from h1)] at he
    rw [if_pos h1]
    obtain ⟨k1, k2, k3⟩ := sp_failed h he
    exact ⟨k2, k3, k1⟩
  rw [if_neg (show ¬(spOf st p g s).part ≠ 2 from h1)] at he
  rw [if_neg h1]
  have hs := h.notOld (by omega)
  subst hs
  cases t with
  | none =>
    obtain ⟨buf, key, start, sec, lax, bad, err, mul⟩ := st
    cases bad <;> cases he
    · exact ⟨rfl, (h.sec 5).app _, rfl⟩
    · exact ⟨rfl, h.sec 5, rfl⟩
  | some n =>
    simp only at he ⊢
    by_cases hr : n < -9223372036854775808 ∨ n > 9223372036854775807
    · rw [if_pos hr] at he ⊢
      rw [show ({ spOf st p g false with part := 5 } : Sp) = spOf { st with sec := 5 } p g false from rfl, sp_fails { st with sec := 5 } p g true 2 (.inr ⟨rfl, rfl⟩) (h.ok rfl)] at he
      cases he
      exact ⟨rfl, (h.sec 5).fail 2, trivial⟩
    rw [if_neg hr] at he ⊢
    have hq : (if st.mul > 0 then n.tdiv st.mul else n) = n.tdiv p := by
      rcases h.prec with ⟨q1, q2⟩ | ⟨q1, q2⟩
      · rw [q1, q2, if_neg (by decide), Int.tdiv_one]
      · rw [if_pos q2, q1]
    rw [hq]
    obtain ⟨buf, key, start, sec, lax, bad, err, mul⟩ := st
    cases bad <;> cases he
    · exact ⟨rfl, (h.sec 5).app _, trivial⟩
    · exact ⟨rfl, h.sec 5, trivial⟩
/-- What PutSaid asks of a state ahead of a call. -/
def PutCond (p : PutD) (st : St) : Prop := (p.op = 0 ∨ p.op = 9 → st.sec = 1 → st.start ≤ st.buf.length) ∧ (p.op = 1 ∨ p.op = 10 ∨ p.op = 2 ∨ p.op = 11 ∨ p.op = 3 → st.start ≤ st.buf.length)
theorem sp_put {e : Sp} {st : St} (h : SpRel e st) (p : PutD) (hb : spBad p = false) {e2 : Sp} (he : e.put p = some e2) : ∃ st2, p.step fTx st = some st2 ∧ SpRel e2 st2 ∧ PutCond p st := by
  obtain ⟨q, g, s, rfl, h⟩ := h
  unfold Sp.put at he
  unfold PutD.step
  unfold spBad at hb
  rw [Bool.or_eq_false_iff] at hb
  obtain ⟨hb1, hb2⟩ := hb
  by_cases h0 : p.op = 0 ∨ p.op = 9
  · rw [if_pos h0] at he ⊢
    obtain ⟨k0, k1, k2⟩ := sp_line h p.key.data.toList
    rw [k0] at he; cases he
    exact ⟨_, rfl, ⟨_, _, _, rfl, k1⟩, fun _ => k2, fun hh => by omega⟩
  rw [if_neg h0] at he ⊢
  by_cases h1 : p.op = 1 ∨ p.op = 10
  · rw [if_pos h1] at he ⊢
    obtain ⟨rfl, k1, rfl⟩ := sp_tag h _ _ he
    exact ⟨_, rfl, ⟨_, _, _, rfl, k1⟩, fun hh => absurd hh h0, fun _ => h.ok rfl⟩
  rw [if_neg h1] at he ⊢
  by_cases h2 : p.op = 2 ∨ p.op = 11
  · rw [if_pos h2] at he ⊢
    rw [decide_eq_true h2, Bool.true_and, Bool.not_eq_false'] at hb1
    obtain ⟨x, hx, hxt⟩ := can_made p.v hb1
    obtain ⟨rfl, k1, rfl⟩ := sp_field h _ p.v x hxt he
    exact ⟨_, by rw [hx]; rfl, ⟨_, _, _, rfl, k1⟩, fun hh => absurd hh h0, fun _ => h.ok rfl⟩
  rw [if_neg h2] at he ⊢
  by_cases h3 : p.op = 3
  · rw [if_pos h3] at he ⊢
    obtain ⟨rfl, k1, rfl⟩ := sp_endl h _ he
    exact ⟨_, rfl, ⟨_, _, _, rfl, k1⟩, fun hh => absurd hh h0, fun _ => h.ok rfl⟩
  rw [if_neg h3] at he ⊢
  have hcond : PutCond p st := ⟨fun hh => absurd hh h0, fun hh => by omega⟩
  by_cases h4 : p.op = 4
  · rw [if_pos h4] at he ⊢
    cases he
    exact ⟨_, rfl, ⟨q, g, s, rfl, h.prec, h.ok, h.old, h.fresh⟩, hcond⟩
  rw [if_neg h4] at he ⊢
  have hnew : ∀ b : List UInt8, SpRel { spOf st q g s with buf := b, part := 0, err := false, out := false, stale := (spOf st q g s).begun } { st with buf := b, sec := 0, err := 0 } := fun b =>
    ⟨q, g, g, rfl, h.prec, fun hh => by rw [show ({ st with buf := b, sec := 0, err := 0 } : St).start = st.start from rfl, (h.fresh hh).1]; exact Nat.zero_le _, fun _ => rfl, fun hh => ⟨(h.fresh hh).1, hh⟩⟩
  by_cases h5 : p.op = 5
  · rw [if_pos h5] at he ⊢
    cases he
    exact ⟨_, rfl, hnew _, hcond⟩
  rw [if_neg h5] at he ⊢
  by_cases h6 : p.op = 6
  · rw [if_pos h6] at he ⊢
    rw [decide_eq_true h6, Bool.true_and, decide_eq_false_iff_not] at hb2
    cases he
    rw [if_pos ⟨by omega, by omega⟩]
    exact ⟨_, rfl, ⟨ticks p.n.toNat, g, s, rfl, .inr ⟨rfl, ticks_pos _⟩, h.ok, h.old, h.fresh⟩, hcond⟩
  rw [if_neg h6] at he ⊢
  by_cases h7 : p.op = 7
  · rw [if_pos h7] at he ⊢
    cases he
    exact ⟨_, rfl, ⟨q, g, s, rfl, h.prec, h.ok, h.old, h.fresh⟩, hcond⟩
  rw [if_neg h7] at he ⊢
  by_cases h8 : p.op = 8
  · rw [if_pos h8] at he ⊢
    cases he
    exact ⟨_, rfl, hnew _, hcond⟩
  rw [if_neg h8] at he ⊢
  cases he
  exact ⟨_, rfl, ⟨q, g, s, rfl, h⟩, hcond⟩
end Go.Proofs.YtaaogjhaokaggaaGreatDoor
namespace Go.Proofs.YtaaogjhaokaggaaGreatDoor
open Go.RowKit

theorem can_not (d : VD) (h : d.can = false) : d.made = none := by
  obtain ⟨k, s, n, u, f, b⟩ := d
  simp only [VD.can, VD.made] at *
  by_cases h1 : k = 1
  · subst h1
    rw [if_pos rfl] at h
    rw [if_pos rfl, h]
    rfl
  rw [if_neg h1] at h ⊢
  by_cases h4 : k = 4
  · subst h4
    rw [if_pos rfl] at h
    rw [if_neg (by decide), if_neg (by decide), if_pos rfl, h]
    rfl
  rw [if_neg h4] at h
  have h := of_decide_eq_false h
  rw [if_neg (fun hh => h (.inl hh)), if_neg (fun hh => h (.inr (.inl hh))), if_neg h4, if_neg (fun hh => h (.inr (.inr hh)))]
/-- What is refused by the spec is refused by the code. -/
theorem bad_step (F : Nat → List UInt8) (p : PutD) (hb : spBad p = true) (st : St) : p.step F st = none := by
  unfold spBad at hb
  rw [Bool.or_eq_true, Bool.and_eq_true, Bool.and_eq_true] at hb
  unfold PutD.step
  rcases hb with ⟨h1, h2⟩ | ⟨h1, h2⟩
  · have h1 := of_decide_eq_true h1
    rw [if_neg (by omega), if_neg (by omega), if_pos h1, can_not p.v (by simpa using h2)]
    rfl
  · have h1 := of_decide_eq_true h1
    have h2 := of_decide_eq_true h2
    rw [if_neg (by omega), if_neg (by omega), if_neg (by omega), if_neg (by omega), if_neg (by omega), if_neg (by omega), if_pos h1, if_neg (by omega)]
/-- How the spec's encoder stands behind the first k calls. -/
noncomputable def sps (l : List PutD) : Nat → Option Sp
  | 0 => some Sp0
  | k + 1 => (sps l k).bind fun e => (l[k]?).bind fun p => if spBad p = true then none else e.put p
def spStood (e : Sp) : List Value := [.bool e.err, .bool e.out, .int .i64 e.buf.length]
noncomputable def spStoodL (l : List PutD) : Nat → List Value
  | 0 => []
  | k + 1 => spStoodL l k ++ (match sps l (k + 1) with | some e => spStood e | none => [])
theorem sps_next {l : List PutD} {k : Nat} {e e2 : Sp} {p : PutD} (h : sps l k = some e) (hp : l[k]? = some p) (hb : spBad p = false) (h2 : e.put p = some e2) : sps l (k + 1) = some e2 := by
  simp only [sps]
  rw [h, Option.bind_some, hp, Option.bind_some, hb, if_neg (by decide), h2]
theorem sps_back {l : List PutD} {k : Nat} {e2 : Sp} (h : sps l (k + 1) = some e2) : ∃ e p, sps l k = some e ∧ l[k]? = some p ∧ spBad p = false ∧ e.put p = some e2 := by
  simp only [sps] at h
  obtain ⟨e, h1, h⟩ := Option.bind_eq_some_iff.1 h
  obtain ⟨p, h2, h⟩ := Option.bind_eq_some_iff.1 h
  by_cases hb : spBad p = true
  · rw [if_pos hb] at h; cases h
  · rw [if_neg hb] at h
    exact ⟨e, p, h1, h2, by simpa using hb, h⟩
theorem sps_pre {l : List PutD} {K : Nat} {e : Sp} (h : sps l K = some e) : ∀ k, k ≤ K → ∃ e', sps l k = some e' := by
  induction K generalizing e with
  | zero => intro k hk; have : k = 0 := by omega
            subst this; exact ⟨_, rfl⟩
  | succ K ih =>
    intro k hk
    by_cases hk1 : k = K + 1
    · subst hk1; exact ⟨_, h⟩
    · obtain ⟨e1, _, h1, _⟩ := sps_back h
      exact ih h1 k (by omega)
/-- The code's encoder keeps step with the spec's. -/
theorem sps_sts {l : List PutD} : ∀ {k : Nat} {e : Sp}, sps l k = some e → ∃ st, sts fTx l k = some st ∧ SpRel e st ∧ spStoodL l k = stoodL fTx l k
  | 0, e, h => by cases h; exact ⟨St0, rfl, sprel0, rfl⟩
  | k + 1, e, h => by
    obtain ⟨e1, p, h1, h2, hb, h3⟩ := sps_back h
    obtain ⟨st, k1, k2, k3⟩ := sps_sts h1
    obtain ⟨st2, q1, q2, _⟩ := sp_put k2 p hb h3
    have hs : sts fTx l (k + 1) = some st2 := by
      simp only [sts]
      rw [k1, Option.bind_some, h2, Option.bind_some, q1]
    refine ⟨st2, hs, q2, ?_⟩
    simp only [spStoodL, stoodL]
    rw [h, hs, k3]
    obtain ⟨_, _, _, rfl, _⟩ := q2
    rfl
theorem sts_bad {l : List PutD} {k : Nat} {p : PutD} {st : St} (h : sts fTx l k = some st) (hp : l[k]? = some p) (hb : spBad p = true) : sts fTx l (k + 1) = none := by
  simp only [sts]
  rw [h, Option.bind_some, hp, Option.bind_some, bad_step fTx p hb st]
/-- The calls that are asked about: up to the end, or up to one that is refused. -/
def Asked (l : List PutD) : Prop := (∃ e, sps l l.length = some e) ∨ ∃ k e p, l[k]? = some p ∧ sps l k = some e ∧ spBad p = true
/-- Each call that the code makes is one that the spec makes, or one that is refused. -/
theorem asked_at {l : List PutD} (h : Asked l) {k : Nat} {p : PutD} {st : St} (hp : l[k]? = some p) (hs : sts fTx l k = some st) : spBad p = true ∨ PutCond p st := by
  have key : ∀ e, sps l k = some e → (∃ e2, sps l (k + 1) = some e2) → PutCond p st := by
    intro e he ⟨e2, he2⟩
    obtain ⟨e1, q, h1, h2, hb, h3⟩ := sps_back he2
    rw [hp] at h2; cases h2
    obtain ⟨st1, k1, k2, _⟩ := sps_sts h1
    rw [hs] at k1; cases k1
    obtain ⟨_, _, _, hc⟩ := sp_put k2 p hb h3
    exact hc
  have hk : k < l.length := (List.getElem?_eq_some_iff.1 hp).1
  rcases h with ⟨e, he⟩ | ⟨K, e, q, hq, he, hb⟩
  · obtain ⟨e1, h1⟩ := sps_pre he k (by omega)
    exact .inr (key e1 h1 (sps_pre he (k + 1) (by omega)))
  · by_cases hkK : k < K
    · obtain ⟨e1, h1⟩ := sps_pre he k (by omega)
      exact .inr (key e1 h1 (sps_pre he (k + 1) (by omega)))
    · by_cases hkE : k = K
      · subst hkE
        rw [hp] at hq; cases hq
        exact .inl hb
      · obtain ⟨st1, k1, _⟩ := sps_sts he
        have := sts_none (sts_bad k1 hq hb) k (by omega)
        rw [hs] at this; cases this
/-- Behind calls that are refused: none. -/
theorem asked_end {l : List PutD} {k : Nat} {p : PutD} {e : Sp} (hp : l[k]? = some p) (he : sps l k = some e) (hb : spBad p = true) : sts fTx l l.length = none := by
  obtain ⟨st1, k1, _⟩ := sps_sts he
  exact sts_none (sts_bad k1 hp hb) l.length (by have := (List.getElem?_eq_some_iff.1 hp).1; omega)

/-! ### Lengths. -/
def Len (K : Nat) (st : St) : Prop := st.buf.length ≤ K ∧ st.key.length ≤ 1000000
theorem Len.fail {K : Nat} {st : St} (h : Len K st) (k : Nat) : Len K (st.fail k) := by
  obtain ⟨h1, h2⟩ := h
  refine ⟨?_, h2⟩
  simp only [St.fail, List.length_take]; omega
theorem Len.le {K K' : Nat} {st : St} (h : Len K st) (hk : K ≤ K') : Len K' st := ⟨Nat.le_trans h.1 hk, h.2⟩
theorem Len.line {K : Nat} {st : St} (h : Len K st) (m : List UInt8) (hm : m.length ≤ 4000) : Len (K + 9000) (st.line m) := by
  have hl := esc_len (tOf sM) m
  have h2 : Len K (if st.sec = 1 then ({ st with sec := 1 } : St).fail 1 else { st with sec := 1 }) := by
    split
    · exact Len.fail (st := { st with sec := 1 }) h 1
    · exact h
  unfold St.line
  generalize (if st.sec = 1 then ({ st with sec := 1 } : St).fail 1 else { st with sec := 1 }) = st2 at h2
  obtain ⟨h3, h4⟩ := h2
  simp only
  split
  · exact Len.le (Len.fail (st := { st2 with key := [], start := st2.buf.length, bad := false }) ⟨h3, Nat.zero_le _⟩ 1) (by omega)
  · refine ⟨?_, Nat.zero_le _⟩
    simp only [List.length_append]
    split <;> simp only [List.length_cons, List.length_nil] <;> omega
theorem Len.tag {K : Nat} {st : St} (h : Len K st) (k v : List UInt8) (hk : k.length ≤ 4000) (hv : v.length ≤ 4000) : Len (K + 18000) (st.tag k v) := by
  have hl := esc_len (tOf sK) k
  have hm := esc_len (tOf sV) v
  have hf := Len.le (h.fail 1) (show K ≤ K + 18000 by omega)
  obtain ⟨h1, h2⟩ := h
  unfold St.tag
  split
  · exact hf
  split
  · exact hf
  obtain ⟨buf, key, start, sec, lax, bad, err, mul⟩ := st
  simp only at h1 h2
  cases lax <;> cases bad
  · exact ⟨by simp only [if_true, Bool.false_eq_true, if_false, List.length_append, List.length_cons, List.length_nil]; omega, by simp only [if_true, Bool.false_eq_true, if_false]; omega⟩
  · exact ⟨by simp only [if_true]; omega, by simp only [if_true]; omega⟩
  · exact ⟨by simp only [Bool.true_eq_false, Bool.false_eq_true, if_false, List.length_append, List.length_cons, List.length_nil]; omega, by simp only [Bool.true_eq_false, Bool.false_eq_true, if_false]; omega⟩
  · exact ⟨by simp only [Bool.true_eq_false, if_true, if_false]; omega, by simp only [Bool.true_eq_false, if_true, if_false]; omega⟩
theorem Len.field {K : Nat} {st : St} (h : Len K st) (F : Nat → List UInt8) (k : List UInt8) (x : Val) (hk : k.length ≤ 4000) (hx : (valText F x).length ≤ 10000) : Len (K + 19000) (st.field F k x) := by
  have hl := esc_len (tOf sK) k
  have hf := Len.le (h.fail 1) (show K ≤ K + 19000 by omega)
  have hf2 := Len.le (Len.fail (st := { st with sec := 2 }) h 1) (show K ≤ K + 19000 by omega)
  obtain ⟨h1, h2⟩ := h
  unfold St.field
  split
  · exact hf
  split
  · exact hf2
  split
  · exact ⟨Nat.le_trans h1 (by omega), h2⟩
  · refine ⟨?_, h2⟩
    simp only [List.length_append, List.length_cons, List.length_nil]; omega
theorem Len.endl {K : Nat} {st : St} (h : Len K st) (t : Option Int) : Len (K + 30) (st.endl t) := by
  have hf := Len.le (h.fail 1) (show K ≤ K + 30 by omega)
  have hf2 := Len.le (Len.fail (st := { st with sec := 5 }) h 2) (show K ≤ K + 30 by omega)
  obtain ⟨h1, h2⟩ := h
  unfold St.endl
  split
  · exact hf
  cases t with
  | none =>
    simp only
    split
    · exact ⟨Nat.le_trans h1 (by omega), h2⟩
    · exact ⟨by simp only [List.length_append, List.length_cons, List.length_nil]; omega, h2⟩
  | some n =>
    simp only
    split
    · exact hf2
    · rename_i hr
      split
      · exact ⟨Nat.le_trans h1 (by omega), h2⟩
      · have hq : -9223372036854775808 ≤ (if st.mul > 0 then n.tdiv st.mul else n) ∧ (if st.mul > 0 then n.tdiv st.mul else n) ≤ 9223372036854775807 := by
          split
          · rename_i hm; exact tdiv_in n st.mul (by omega) (by omega) hm
          · omega
        have hl := Lib.itoa_length_le _ hq.1 hq.2
        exact ⟨by simp only [List.length_append, List.length_cons, List.length_nil]; omega, h2⟩
/-- A call that is asked about. -/
structure PutBd (p : PutD) : Prop where
  op : 0 ≤ p.op ∧ p.op ≤ 11
  key : p.key.size ≤ 4000
  value : p.value.size ≤ 4000
  s : p.v.s.size ≤ 4000
  n0 : -9223372036854775808 ≤ p.v.n
  n1 : p.v.n ≤ 9223372036854775807
  u : p.v.u < 18446744073709551616
  f : p.v.f < 18446744073709551616
  p0 : -9223372036854775808 ≤ p.n
  p1 : p.n ≤ 9223372036854775807
  m0 : -9223372036854775808 ≤ p.more
  m1 : p.more ≤ 9223372036854775807
theorem PutBd.ok {p : PutD} (h : PutBd p) : p.v.Ok := ⟨Nat.le_trans h.s (by decide), h.n0, h.n1, h.u⟩
theorem bd_made {p : PutD} (h : PutBd p) {y : Val} (hy : p.v.made = some y) : (valText fTx y).length ≤ 10000 ∧ ∀ n, y = .flt n → finOk n := by
  refine ⟨?_, fun n hn => ?_⟩
  · have hc : p.v.can = true := by
      cases hcc : p.v.can with
      | true => rfl
      | false => rw [can_not p.v hcc] at hy; cases hy
    obtain ⟨y', h1, h2⟩ := can_made p.v hc
    rw [hy] at h1; cases h1
    rw [h2]
    have h3 := h.s
    have h5 := spEsc_len 4 p.v.s.data.toList
    have h6 : p.v.s.data.toList.length = p.v.s.size := by simp
    have e1 := Lib.itoa_length_le p.v.n h.n0 h.n1
    have e2 : (Lib.decDigits p.v.u).length ≤ 20 := by rw [Lib.decDigits_length]; exact Lib.nDigits_le20 _ h.u
    have e3 := fTx_len p.v.f
    have e4 := formatBool_len p.v.b
    unfold VD.text
    repeat' split
    all_goals (try simp only [List.length_append, List.length_cons, List.length_nil])
    all_goals omega
  · subst hn
    unfold VD.made at hy
    repeat' split at hy
    all_goals first | (cases hy; exact ⟨h.f, by assumption⟩) | cases hy
theorem len_step {p : PutD} (h : PutBd p) {K : Nat} {st st2 : St} (hf : Len K st) (hs : p.step fTx st = some st2) : Len (K + 20000) st2 := by
  have lk : p.key.data.toList.length ≤ 4000 := by have := h.key; simpa using this
  have lv : p.value.data.toList.length ≤ 4000 := by have := h.value; simpa using this
  have hle := hf.le (show K ≤ K + 20000 by omega)
  unfold PutD.step at hs
  split at hs
  · cases hs; exact (hf.line _ lk).le (by omega)
  split at hs
  · cases hs; exact (hf.tag _ _ lk lv).le (by omega)
  split at hs
  · obtain ⟨y, hy, rfl⟩ := Option.map_eq_some_iff.1 hs
    exact (hf.field fTx _ y lk (bd_made h hy).1).le (by omega)
  split at hs
  · cases hs; exact (hf.endl _).le (by omega)
  split at hs
  · cases hs; exact hle
  split at hs
  · cases hs; exact ⟨Nat.zero_le _, hle.2⟩
  split at hs
  · split at hs
    · cases hs; exact hle
    · cases hs
  split at hs
  · cases hs; exact hle
  split at hs
  · cases hs; exact ⟨Nat.le_trans lk (by omega), hle.2⟩
  · cases hs; exact hle
theorem len_sts {l : List PutD} (hl : ∀ p, p ∈ l → PutBd p) : ∀ {k : Nat} {st : St}, sts fTx l k = some st → Len (20000 * k) st
  | 0, st, h => by cases h; exact ⟨Nat.le_refl _, Nat.zero_le _⟩
  | k + 1, st2, h => by
    simp only [sts] at h
    obtain ⟨st, h1, h⟩ := Option.bind_eq_some_iff.1 h
    obtain ⟨p, h2, h⟩ := Option.bind_eq_some_iff.1 h
    exact (len_step (hl p (List.mem_of_getElem? h2)) (len_sts hl h1) h).le (by omega)

/-! ### The calls that take bytes, and those that take texts. -/
def flipOp (o : Int) : Int := if o = 0 ∨ o = 1 ∨ o = 2 then o + 9 else if o = 9 ∨ o = 10 ∨ o = 11 then o - 9 else o
def flipP (p : PutD) : PutD := { p with op := flipOp p.op }
theorem flip_two (o a b : Int) (hab : (a = 0 ∧ b = 9) ∨ (a = 1 ∧ b = 10) ∨ (a = 2 ∧ b = 11)) : (flipOp o = a ∨ flipOp o = b) ↔ (o = a ∨ o = b) := by
  unfold flipOp
  split
  · omega
  split <;> omega
theorem flip_one (o a : Int) (h0 : 3 ≤ a) (h1 : a ≤ 8) : flipOp o = a ↔ o = a := by
  unfold flipOp
  split
  · omega
  split <;> omega
theorem flip_step (F : Nat → List UInt8) (st : St) (p : PutD) : (flipP p).step F st = p.step F st := by
  obtain ⟨op, key, value, v, n, m, z⟩ := p
  unfold PutD.step flipP
  simp only [flip_two op 0 9 (by omega), flip_two op 1 10 (by omega), flip_two op 2 11 (by omega), flip_one op 3 (by omega) (by omega), flip_one op 4 (by omega) (by omega), flip_one op 5 (by omega) (by omega), flip_one op 6 (by omega) (by omega), flip_one op 7 (by omega) (by omega), flip_one op 8 (by omega) (by omega)]
theorem flip_bad (p : PutD) : spBad (flipP p) = spBad p := by
  obtain ⟨op, key, value, v, n, m, z⟩ := p
  unfold spBad flipP
  simp only [flip_two op 2 11 (by omega), flip_one op 6 (by omega) (by omega)]
theorem flip_cond {p : PutD} {st : St} (h : PutCond p st) : PutCond (flipP p) st := by
  obtain ⟨op, key, value, v, n, m, z⟩ := p
  unfold PutCond flipP at *
  simp only at *
  refine ⟨fun hh => h.1 ((flip_two op 0 9 (by omega)).1 hh), fun hh => h.2 ?_⟩
  have h1 := flip_two op 1 10 (by omega)
  have h2 := flip_two op 2 11 (by omega)
  have h3 := flip_one op 3 (by omega) (by omega)
  omega
theorem flip_bd {p : PutD} (h : PutBd p) : PutBd (flipP p) := by
  obtain ⟨h0, h1, h2, h3, h4, h5, h6, h7, h8, h9, h10, h11⟩ := h
  refine ⟨?_, h1, h2, h3, h4, h5, h6, h7, h8, h9, h10, h11⟩
  show 0 ≤ flipOp p.op ∧ flipOp p.op ≤ 11
  unfold flipOp
  split
  · omega
  split <;> omega
theorem flip_sts (F : Nat → List UInt8) (l : List PutD) : ∀ k, sts F (l.map flipP) k = sts F l k
  | 0 => rfl
  | k + 1 => by
    simp only [sts]
    rw [flip_sts F l k, List.getElem?_map]
    congr 1
    funext st
    cases l[k]? with
    | none => rfl
    | some p => exact flip_step F st p
theorem flip_stoodL (F : Nat → List UInt8) (l : List PutD) : ∀ k, stoodL F (l.map flipP) k = stoodL F l k
  | 0 => rfl
  | k + 1 => by
    simp only [stoodL]
    rw [flip_stoodL F l k, flip_sts F l (k + 1)]
end Go.Proofs.YtaaogjhaokaggaaGreatDoor
namespace Go.Proofs.YtaaogjhaokaggaaGreatDoor
open Go.RowKit

/-- A slice of calls, wherever it lies. -/
def PutsC (w : World) (v : Value) (l : List PutD) : Prop := ∃ a c, v = .slice a l.length c ∧ (l = [] ∨ ∃ g off, a = some ⟨g, off, none⟩ ∧ ∀ i p, l[i]? = some p → ∀ j u, p.cells[j]? = some u → w.cell? ⟨g, off + i * 12 + j, none⟩ = some u)
theorem PutsC.fr {w w' : World} {v : Value} {l : List PutD} (h : PutsC w v l) (f : Fr [] w w') : PutsC w' v l := by
  obtain ⟨a, c, rfl, h⟩ := h
  refine ⟨a, c, rfl, ?_⟩
  rcases h with h | ⟨g, off, rfl, h⟩
  · exact .inl h
  · exact .inr ⟨g, off, rfl, fun i d hd j u hu => f.cell (h i d hd j u hu) List.not_mem_nil⟩
theorem PutsC.at {w : World} {v : Value} {l : List PutD} (h : PutsC w v l) (hl : 0 < l.length) : ∃ g off cap, v = .slice (some ⟨g, off, none⟩) l.length cap ∧ ∀ i p, l[i]? = some p → ∀ j u, p.cells[j]? = some u → w.cell? ⟨g, off + i * 12 + j, none⟩ = some u := by
  obtain ⟨a, c, rfl, h⟩ := h
  rcases h with rfl | ⟨g, off, rfl, h⟩
  · simp at hl
  · exact ⟨g, off, c, rfl, h⟩
/-- The walk of a call that panics. -/
def PutPan (p : PutD) : Prop := ∀ (B : Nat) (ea : Addr) (b : Nat) (w : World) (st : St), Gl B ea w → Enc B ea w b st →
  Calls Tryz.prog 45 #[.pointer (some ⟨b, 0, none⟩), .agg p.cells] w fun e w' => (∃ u pv, e = .panicked [{ v := .iface u pv, recovered := false }]) ∧ Fr [] w w'

/-- The deferred closure of a frame that panics. -/
theorem recover_hot (a b c : Nat) (u : TypeId) (pv : Value) (w : World) (x y z : Value) (ha : w.cell? ⟨a, 0, none⟩ = some x) (hb : w.cell? ⟨b, 0, none⟩ = some y) (hc : w.cell? ⟨c, 0, none⟩ = some z) (fa : w.frozen? ⟨a, 0, none⟩ = false) (fb : w.frozen? ⟨b, 0, none⟩ = false) (fc : w.frozen? ⟨c, 0, none⟩ = false) (hab : ¬ a = b) (hac : ¬ a = c) (hbc : ¬ b = c) :
    CallsD Tryz.prog 44 #[.pointer (some ⟨a, 0, none⟩), .pointer (some ⟨b, 0, none⟩), .pointer (some ⟨c, 0, none⟩)] (.panicking [{ v := .iface u pv, recovered := false }]) w fun e u' w' => e = .returned (.tuple #[]) ∧ u' = .panicking [{ v := .iface u pv, recovered := true }] ∧ w' = ((w.setCell ⟨a, 0, none⟩ (.string ⟨#[]⟩)).setCell ⟨b, 0, none⟩ (.slice none 0 0)).setCell ⟨c, 0, none⟩ (.bool false) := by
  refine callsD_of_wpS Tryz.func44 rfl fun c₀ cs hu => ?_
  apply wpS_seq
  apply wpS_region
  simp [wpOpsS, go_sem, recoverD, hu, Tryz.ntmps44, Exit.thenS]
  refine wpS_cond (t := true) (by simp [Act.eval, Array.replicate]) ?_
  simp only [if_true]
  apply wpS_region
  simp [wpOpsS, go_sem, ha, hb, hc, fa, fb, fc, bodyPostS, results, Tryz.results44]

set_option maxRecDepth 100000 in
set_option maxHeartbeats 4000000 in
theorem encode_any2 (F : Nat → List UInt8) {ea : Addr} {B0 : Nat} (l : List PutD) (v : Value) (w : World) (hG : Gl B0 ea w) (hP : PutsC w v l) (hl : l.length ≤ 1000000)
    (hput : ∀ k p st, l[k]? = some p → sts F l k = some st → PutSaid F st p ∨ (p.step F st = none ∧ PutPan p)) :
    Calls Tryz.prog 23 #[v] w (EncRes F l w) := by
  have hmf : ∀ (fn : Fn) (first cap : Array Value) (w : World), (Instr.makeFunc fn first cap).run Tryz.prog w = .ok (.func fn first cap) w := fun _ _ _ _ => rfl
  have hsf : ∀ (a : Addr) (k : FloatKind) (b : Nat) (m : Mode) (w : World), (store a (.float k b) m).run Tryz.prog w = stored Tryz.prog w a (.float k b) m := fun a k b m w => run_store Tryz.prog w a _ m rfl
  have hshape : ∃ a c, v = .slice a l.length c := by
    obtain ⟨a, c, rfl, _⟩ := hP
    exact ⟨a, c, rfl⟩
  obtain ⟨a, c, rfl⟩ := hshape
  have HP := Lib.hid hP
  have HPUT := Lib.hid hput
  have HG := Lib.hid hG.base
  clear hP hput hG
  have HST : Hid (LoopAt F ea l w 0 St0 (.slice none 0 0) ((((w.alloc (Obj.cells #[Value.string { data := #[] }] 9)).alloc (Obj.cells #[Value.slice none 0 0] 45)).alloc (Obj.cells #[Value.bool false] 4)).alloc (.cells #[Value.slice none 0 0, Value.slice none 0 0, Value.int IntKind.i64 0, Value.int IntKind.u8 0, Value.bool false, Value.bool false, Value.nilIface, Value.int IntKind.i64 0, Value.int IntKind.i64 0] 85))) := Lib.hid (by
    have f1 := (Fr.refl [] w).alloc (Obj.cells #[Value.string { data := #[] }] 9)
    have e1 : (w.alloc (Obj.cells #[Value.string { data := #[] }] 9)).heap.size = w.heap.size + 1 := by simp
    obtain ⟨w1, hw1⟩ : ∃ x, x = w.alloc (Obj.cells #[Value.string { data := #[] }] 9) := ⟨_, rfl⟩
    have b1 : w1.heap[w.heap.size]? = some (.cells #[.string ⟨#[]⟩] 9 (0, 0)) := by rw [hw1]; exact heap_alloc_new _ _
    rw [← hw1] at f1 e1 ⊢
    have f2 := (Fr.refl [] w1).alloc (Obj.cells #[Value.slice none 0 0] 45)
    have b2 : (w1.alloc (Obj.cells #[Value.slice none 0 0] 45)).heap[w1.heap.size]? = _ := heap_alloc_new _ _
    have e2 : (w1.alloc (Obj.cells #[Value.slice none 0 0] 45)).heap.size = w1.heap.size + 1 := by simp
    obtain ⟨w2, hw2⟩ : ∃ x, x = w1.alloc (Obj.cells #[Value.slice none 0 0] 45) := ⟨_, rfl⟩
    rw [← hw2] at f2 b2 e2 ⊢
    have f3 := (Fr.refl [] w2).alloc (Obj.cells #[Value.bool false] 4)
    have b3 : (w2.alloc (Obj.cells #[Value.bool false] 4)).heap[w2.heap.size]? = _ := heap_alloc_new _ _
    have e3 : (w2.alloc (Obj.cells #[Value.bool false] 4)).heap.size = w2.heap.size + 1 := by simp
    obtain ⟨w3, hw3⟩ : ∃ x, x = w2.alloc (Obj.cells #[Value.bool false] 4) := ⟨_, rfl⟩
    rw [← hw3] at f3 b3 e3 ⊢
    obtain ⟨E, hE⟩ : ∃ E, E = (Obj.cells #[Value.slice none 0 0, Value.slice none 0 0, Value.int IntKind.i64 0, Value.int IntKind.u8 0, Value.bool false, Value.bool false, Value.nilIface, Value.int IntKind.i64 0, Value.int IntKind.i64 0] 85) := ⟨_, rfl⟩
    rw [← hE]
    have f4 := (Fr.refl [] w3).alloc E
    have b4 : (w3.alloc E).heap[w3.heap.size]? = _ := heap_alloc_new _ _
    have n3 : w3.heap.size = w.heap.size + 3 := by omega
    have n2 : w2.heap.size = w.heap.size + 2 := by omega
    rw [n3] at b4
    rw [n2] at b3
    rw [e1] at b2
    rw [hE] at f4 b4
    rw [hE]
    refine ⟨rfl, ⟨.slice none 0 0, .slice none 0 0, .nilIface, 0, b4, Own.nil _ _, Own.nil _ _, by simp [Value.ownBlock], by simp [Value.ownBlock], by simp [Value.ownBlock], by omega, .inl ⟨rfl, rfl⟩⟩, ((f1.trans f2).trans f3).trans f4, ((f2.trans f3).trans f4).blk b1 (by simp), (f3.trans f4).blk b2 (by simp), f4.blk b3 (by simp), OwnC.nil _ _ _, by simp [Value.ownBlock]⟩)
  go_enter_defers Tryz.func23, Tryz.ntmps23
  go_wp2
  obtain ⟨w0, hw0⟩ : ∃ x, x = ((((w.alloc (Obj.cells #[Value.string { data := #[] }] 9)).alloc (Obj.cells #[Value.slice none 0 0] 45)).alloc (Obj.cells #[Value.bool false] 4)).alloc (.cells #[Value.slice none 0 0, Value.slice none 0 0, Value.int IntKind.i64 0, Value.int IntKind.u8 0, Value.bool false, Value.bool false, Value.nilIface, Value.int IntKind.i64 0, Value.int IntKind.i64 0] 85)) := ⟨_, rfl⟩
  rw [← hw0] at HST ⊢
  clear hw0
  go_loopw [11] (fun i wr => ∃ (k : Nat) (st : St) (vl : Value), k ≤ l.length ∧ i = .int .i64 k ∧ Hid (LoopAt F ea l w k st vl wr)) (fun i _ => l.length - (intOf i).toNat)
  case atStart => exact ⟨0, St0, _, by omega, rfl, HST⟩
  case round =>
    obtain ⟨k, st, vl, hk, rfl, HL⟩ := hrel
    obtain ⟨a5, cp5, rfl⟩ := HL.out.own.shape
    by_cases hlt : k < l.length
    · obtain ⟨p, hp⟩ : ∃ p, l[k]? = some p := ⟨l[k], by simp [hlt]⟩
      have hsaid := HPUT.out k p st hp HL.out.ks
      obtain ⟨g, off, cap, hv, hcell⟩ := (HP.out.fr HL.out.fr).at (by omega)
      have hc := hcell k p hp
      clear hcell
      obtain ⟨op, key, value, ⟨kind, s, vn, u, f, x⟩, n, m, z⟩ := p
      simp only [PutD.cells] at hc
      cases hv
      have hltI : (k : Int) < l.length := by omega
      obtain ⟨vb, vk, ve, pi, hE⟩ := HL.out.enc
      have HE := Lib.hid hE; clear hE
      have c0 : wr.cell? ⟨g, off + k * 12, none⟩ = _ := hc 0 _ rfl
      have c1 := hc 1 _ rfl
      have c2 := hc 2 _ rfl
      have c3 := hc 3 _ rfl
      have c4 := hc 4 _ rfl
      have c5 := hc 5 _ rfl
      have c6 := hc 6 _ rfl
      have c7 := hc 7 _ rfl
      have c8 := hc 8 _ rfl
      have c9 := hc 9 _ rfl
      have c10 := hc 10 _ rfl
      have c11 := hc 11 _ rfl
      have hfA : Fr [] wr (wr.alloc (.cells #[.int .i64 op, .string key, .string value, .int .i64 kind, .string s, .int .i64 vn, .int .u64 u, .float .f64 f, .bool x, .int .i64 n, .int .i64 m, .bool z] 38)) := (Fr.refl _ _).alloc _
      rcases hsaid with hsaid | ⟨hstep, hpan⟩
      case inr =>
        have hS := hpan w.heap.size ea (w.heap.size + 3) _ st (HG.out.fr (HL.out.fr.trans hfA) (by simp)) ⟨vb, vk, ve, pi, HE.out.fr hfA⟩
        simp only [PutD.cells] at hS
        have HS := Lib.hid hS
        have HFA := Lib.hid hfA
        have HSTEP := Lib.hid hstep
        have HPK := Lib.hid hp
        clear hS hpan hfA hstep hp hc
        go_wp2_with (go_at_call 45; refine HS.out.mono ?_; rintro e w2 ⟨⟨pt, pv, rfl⟩, hf2⟩; have HF2 := Lib.hid (FrE.of (B := w.heap.size) (b := w.heap.size + 3) (HFA.out.trans hf2)); clear hf2; have HB2 := Lib.hid (HL.out.mid HF2.out); have d0 := cell_of_row w2 w.heap.size 0 _ 9 _ HB2.out.2.1; have g0 := frozen_of_row w2 w.heap.size 0 _ 9 HB2.out.2.1; have d1 := cell_of_row w2 (w.heap.size + 1) 0 _ 45 _ HB2.out.2.2.1; have g1 := frozen_of_row w2 (w.heap.size + 1) 0 _ 45 HB2.out.2.2.1; have d2 := cell_of_row w2 (w.heap.size + 1 + 1) 0 _ 4 _ HB2.out.2.2.2.1; have g2 := frozen_of_row w2 (w.heap.size + 1 + 1) 0 _ 4 HB2.out.2.2.2.1)
        refine leaves_cons (f := 44) (args := #[.pointer (some ⟨w.heap.size, 0, none⟩), .pointer (some ⟨w.heap.size + 1, 0, none⟩), .pointer (some ⟨w.heap.size + 1 + 1, 0, none⟩)]) (by simp) (by simp [go_sem]) ?_
        refine (recover_hot _ _ _ _ _ _ _ _ _ d0 d1 d2 g0 g1 g2 (by omega) (by omega) (by omega)).mono ?_
        rintro e u' w'' ⟨rfl, rfl, rfl⟩
        have hbad : sts F l l.length = none := sts_none (k := k + 1) (by simp only [sts]; rw [HL.out.ks, HPK.out]; exact HSTEP.out) l.length (by omega)
        simp [Leaves, settle, results, Tryz.results23, go_sem, d0, d1, d2]
        refine ⟨?_, by rw [hbad]⟩
        exact ((HB2.out.1.setCell (.inr (by simp)) _).setCell (.inr (by simp)) _).setCell (.inr (by simp; omega)) _
      have hS := hsaid w.heap.size ea (w.heap.size + 3) _ (HG.out.fr (HL.out.fr.trans hfA) (by simp)) ⟨vb, vk, ve, pi, HE.out.fr hfA⟩
      simp only [PutD.cells] at hS
      cases hstep : PutD.step F st ⟨op, key, value, ⟨kind, s, vn, u, f, x⟩, n, m, z⟩ with
      | none =>
        rw [hstep] at hS
        have HS := Lib.hid hS
        have HFA := Lib.hid hfA
        have HSTEP := Lib.hid hstep
        have HPK := Lib.hid hp
        clear hS hsaid hfA hstep hp hc
        go_wp2_with (go_at_call 45; refine HS.out.mono ?_; rintro e w2 ⟨rfl, hf2⟩; have HF2 := Lib.hid (FrE.of (B := w.heap.size) (b := w.heap.size + 3) (HFA.out.trans hf2)); clear hf2; have HB2 := Lib.hid (HL.out.mid HF2.out); have d0 := cell_of_row w2 w.heap.size 0 _ 9 _ HB2.out.2.1; have g0 := frozen_of_row w2 w.heap.size 0 _ 9 HB2.out.2.1; have d1 := cell_of_row w2 (w.heap.size + 1) 0 _ 45 _ HB2.out.2.2.1; have g1 := frozen_of_row w2 (w.heap.size + 1) 0 _ 45 HB2.out.2.2.1; have d2 := cell_of_row w2 (w.heap.size + 1 + 1) 0 _ 4 _ HB2.out.2.2.2.1; have g2 := frozen_of_row w2 (w.heap.size + 1 + 1) 0 _ 4 HB2.out.2.2.2.1)
        refine leaves_cons (f := 44) (args := #[.pointer (some ⟨w.heap.size, 0, none⟩), .pointer (some ⟨w.heap.size + 1, 0, none⟩), .pointer (some ⟨w.heap.size + 1 + 1, 0, none⟩)]) (by simp) (by simp [go_sem]) ?_
        refine (recover_idle _ _ _ _).mono ?_
        rintro e u' w'' ⟨rfl, rfl, rfl⟩
        have hbad : sts F l l.length = none := sts_none (k := k + 1) (by simp only [sts]; rw [HL.out.ks, HPK.out]; exact HSTEP.out) l.length (by omega)
        simp [Leaves, settle, results, Tryz.results23, go_sem, d0, d1, d2]
        refine ⟨?_, by rw [hbad]⟩
        exact ((HB2.out.1.setCell (.inr (by simp)) _).setCell (.inr (by simp)) _).setCell (.inr (by simp; omega)) _
      | some st' =>
        rw [hstep] at hS
        have HS := Lib.hid hS
        have HFA := Lib.hid hfA
        have HSTEP := Lib.hid hstep
        have HPK := Lib.hid hp
        clear hS hsaid hfA hstep hp hc
        go_wp2_with (go_at_call 45; refine HS.out.mono ?_; rintro e w2 ⟨rfl, hm2⟩; have HM2 := Lib.hid hm2.1; have HF2 := Lib.hid ((FrE.of HFA.out).trans hm2.2); clear hm2; have HB2 := Lib.hid (HL.out.mid HF2.out); have d0 := cell_of_row w2 w.heap.size 0 _ 9 _ HB2.out.2.1; have g0 := frozen_of_row w2 w.heap.size 0 _ 9 HB2.out.2.1; have d1 := cell_of_row w2 (w.heap.size + 1) 0 _ 45 _ HB2.out.2.2.1; have g1 := frozen_of_row w2 (w.heap.size + 1) 0 _ 45 HB2.out.2.2.1; have d2 := cell_of_row w2 (w.heap.size + 1 + 1) 0 _ 4 _ HB2.out.2.2.2.1; have g2 := frozen_of_row w2 (w.heap.size + 1 + 1) 0 _ 4 HB2.out.2.2.2.1)
        have HB22 := HB2
        clear d0 g0 d1 g1 d2 g2 hmf
        obtain ⟨vb2, vk2, ve2, pi2, hE2⟩ := HM2.out
        obtain ⟨ab, nb, cb, hvb, hnb, -, -⟩ := own_shape2 hE2.obuf
        have hED := hE2.drew
        have HED := Lib.hid hED
        have HGD := Lib.hid (HG.out.fr HB2.out.1.drew (by simp))
        have HVB := Lib.hid hvb
        have HNB := Lib.hid hnb
        have hneq := fun wx => neq_nil (B := w.heap.size) (ea := ea) ve2 st'.err wx hED.er
        have hgn := fun wx => guard_nil (B := w.heap.size) (ea := ea) ve2 st'.err wx hED.er
        have hR1 : w2.drew.heap[w.heap.size + 1]? = some (.cells #[.slice a5 k cp5] 45 (0, 0)) := HB2.out.2.2.1
        have HR1 := Lib.hid hR1
        have d1 := cell_of_row w2.drew (w.heap.size + 1) 0 _ 45 _ hR1
        have hO : OwnC w2.drew 49 3 (.slice a5 k cp5) k (stoodL F l k) := HB2.out.2.2.2.2
        have HO := Lib.hid hO
        obtain ⟨i49, hi49, hz49, hs49, hb49⟩ := parts_c info49
        obtain ⟨bo1, hbo1⟩ : ∃ x, x = (st'.err != 0) := ⟨_, rfl⟩
        obtain ⟨bo2, hbo2⟩ : ∃ x, x = (st'.err == 2) := ⟨_, rfl⟩
        have HBO := Lib.hid (And.intro hbo1 hbo2)
        rw [← hbo1] at hneq
        have hout : Calls Tryz.prog 47 #[ve2] w2.drew fun e w' => e = .returned (.bool bo2) ∧ w' = w2.drew := by rw [hbo2]; exact outside_any ve2 st'.err _ HGD.out HED.out.er
        have HOUT := Lib.hid hout
        have d1b : (w2.alloc (.cells #[.bool bo1, .bool bo2, .int .i64 nb] 49)).drew.cell? ⟨w.heap.size + 1, 0, none⟩ = some (.slice a5 k cp5) := cell_of_row _ (w.heap.size + 1) 0 _ 45 _ ((((Fr.refl [] w2).alloc (.cells #[.bool bo1, .bool bo2, .int .i64 nb] 49)).drew).blk HB2.out.2.2.1 (by simp))
        clear hED hvb hnb hE2 hR1 hO hbo1 hbo2 hout
        refine wp_region_noPanic ?_
        go_region_law (first
          | (refine stepApp1C w2.drew (by rfl) _ _ _ (by rfl) 49 i49 _ Tryz.underlying45 hi49 hz49 3 hs49 hb49 rfl (.slice a5 k cp5) k (stoodL F l k) #[.bool bo1, .bool bo2, .int .i64 nb] rfl (by simp [Value.oneCell']) (by rfl) (by rfl) HO.out (by omega) ?_; intro v5 w5 ho5 hf5 hb5; obtain ⟨a6, cp6, rfl⟩ := ho5.shape; have HO5 := Lib.hid ho5; clear ho5; have HF5 := Lib.hid hf5; have HB5 := Lib.hid hb5; have hr5 := hf5.blk HR1.out (fun hm => by have := HL.out.new _ (by simpa using hm); omega); have d5 := cell_of_row w5 (w.heap.size + 1) 0 _ 45 _ hr5; have g5 := frozen_of_row w5 (w.heap.size + 1) 0 _ 45 hr5; have HR5 := Lib.hid hr5; clear hr5 hf5 hb5)
          | (go_simp; go_at_call 46; refine (err_any _ st' _ _ ve2 _ _ HED.out).mono ?_; rintro e w' ⟨rfl, rfl⟩)
          | (go_simp; go_at_call 47; refine HOUT.out.mono ?_; rintro e w' ⟨rfl, rfl⟩)
          | (go_simp; go_at_call 48; refine (bytes_any _ st' vb2 _ _ _ _ HED.out).mono ?_; rintro e w' ⟨rfl, rfl⟩; rw [HVB.out]))
        all_goals
          refine NoPanic.normal ?_
          have hnx := HL.out.next HB2.out HM2.out bo1 bo2 HBO.out HNB.out HO5.out HF5.out HB5.out HR5.out (by simp only [sts]; rw [HL.out.ks, HPK.out]; exact HSTEP.out)
          have HNX := Lib.hid hnx
          clear hnx
          go_wp2_with fail
          go_roundw
          case rel => exact ⟨k + 1, st', _, by omega, by go_num, HNX⟩
          case measure => simp [intOf]; omega
    · have hkl : k = l.length := by omega
      subst hkl
      obtain ⟨vb, vk, ve, pi, hE⟩ := HL.out.enc
      obtain ⟨ab, nb, cb, hvb, hnb, -, -⟩ := own_shape2 hE.obuf
      have hED := hE.drew
      have HED := Lib.hid hED
      have HVB := Lib.hid hvb
      have hcv : (convert 66 9 (.slice ab nb cb)).run Tryz.prog wr.drew = .ok (.string ⟨st.buf.toArray⟩) wr.drew := by rw [← hvb]; exact conv_own hED.obuf
      have d0 : wr.drew.cell? ⟨w.heap.size, 0, none⟩ = _ := cell_of_row wr.drew w.heap.size 0 _ 9 _ HL.out.tb
      have g0 : wr.drew.frozen? ⟨w.heap.size, 0, none⟩ = false := frozen_of_row wr.drew w.heap.size 0 _ 9 HL.out.tb
      have d1 : wr.drew.cell? ⟨w.heap.size + 1, 0, none⟩ = _ := cell_of_row wr.drew (w.heap.size + 1) 0 _ 45 _ HL.out.lb
      have g1 : wr.drew.frozen? ⟨w.heap.size + 1, 0, none⟩ = false := frozen_of_row wr.drew (w.heap.size + 1) 0 _ 45 HL.out.lb
      have d2 : wr.drew.cell? ⟨w.heap.size + 1 + 1, 0, none⟩ = _ := cell_of_row wr.drew (w.heap.size + 1 + 1) 0 _ 4 _ HL.out.ob
      have g2 : wr.drew.frozen? ⟨w.heap.size + 1 + 1, 0, none⟩ = false := frozen_of_row wr.drew (w.heap.size + 1 + 1) 0 _ 4 HL.out.ob
      have p0 := cell_of_row wr w.heap.size 0 _ 9 _ HL.out.tb
      have q0 := frozen_of_row wr w.heap.size 0 _ 9 HL.out.tb
      have p1 := cell_of_row wr (w.heap.size + 1) 0 _ 45 _ HL.out.lb
      have q1 := frozen_of_row wr (w.heap.size + 1) 0 _ 45 HL.out.lb
      have p2 := cell_of_row wr (w.heap.size + 1 + 1) 0 _ 4 _ HL.out.ob
      have q2 := frozen_of_row wr (w.heap.size + 1 + 1) 0 _ 4 HL.out.ob
      clear hE hvb hnb hED
      go_wp2_with fail
      refine wp_region_noPanic ?_
      go_region_law (first
        | (go_simp; go_at_call 48; refine (bytes_any _ st vb _ _ _ _ HED.out).mono ?_; rintro e w' ⟨rfl, rfl⟩; rw [HVB.out]))
      all_goals
        refine NoPanic.normal ?_
        go_wp2_with fail
        refine leaves_cons (f := 44) (args := #[.pointer (some ⟨w.heap.size, 0, none⟩), .pointer (some ⟨w.heap.size + 1, 0, none⟩), .pointer (some ⟨w.heap.size + 1 + 1, 0, none⟩)]) (by simp) (by simp [go_sem]) ?_
        refine (recover_idle _ _ _ _).mono ?_
        rintro e u' w'' ⟨rfl, rfl, rfl⟩
        simp [Leaves, settle, results, Tryz.results23, go_sem, p0, p1, p2]
        refine ⟨(((HL.out.fr.setCell (.inr (by simp)) _).setCell (.inr (by simp)) _).setCell (.inr (by simp; omega)) _).drew, ?_⟩
        rw [HL.out.ks]
        refine ⟨_, rfl, HL.out.own.fr (S := [w.heap.size, w.heap.size + 1, w.heap.size + 1 + 1]) (((((Fr.refl _ wr).setCell (.inl (by simp)) _).setCell (.inl (by simp)) _).setCell (.inl (by simp)) _).drew) (fun g hg hm => ?_)⟩
        have := HL.out.new g hg
        simp at hm
        omega
end Go.Proofs.YtaaogjhaokaggaaGreatDoor
namespace Go.Proofs.YtaaogjhaokaggaaGreatDoor
open Go.RowKit

theorem duration_pan (p : Nat) (hp : 4 ≤ p) (hp2 : p ≤ 255) (w : World) :
    Calls Tryz.prog 55 #[.int .u8 p] w fun e w' => (∃ u pv, e = .panicked [{ v := .iface u pv, recovered := false }]) ∧ w' = w := by
  have h0 : ¬ ((p : Int) = 0) := by omega
  have h1 : ¬ ((p : Int) = 1) := by omega
  have h2 : ¬ ((p : Int) = 2) := by omega
  have h3 : ¬ ((p : Int) = 3) := by omega
  go_enter Tryz.func55, Tryz.ntmps55
  go_wp2
  exact ⟨rfl, ⟨_, _, rfl⟩, rfl⟩
set_option maxRecDepth 100000 in
theorem setPrec_pan {B : Nat} {ea : Addr} (b : Nat) (st : St) (p : Nat) (hp : 4 ≤ p) (hp2 : p ≤ 255) (w : World) (h : Enc B ea w b st) :
    Calls Tryz.prog 85 #[.pointer (some ⟨b, 0, none⟩), .int .u8 p] w fun e w' => (∃ u pv, e = .panicked [{ v := .iface u pv, recovered := false }]) ∧ w' = w := by
  obtain ⟨vb, vk, ve, pi, hE⟩ := h
  obtain ⟨⟨c0, c1, c2, c3, c4, c5, c6, c7, c8⟩, f0, f1, f2, f3, f4, f5, f6, f7, f8⟩ := hE.row.all
  clear hE
  have HD := Lib.hid (fun w => duration_pan p hp hp2 w)
  clear hp hp2
  go_enter Tryz.func85, Tryz.ntmps85
  go_wp2_with (go_at_call 55; refine (HD.out _).mono ?_; rintro e w1 ⟨⟨pt, pv, rfl⟩, rfl⟩)
  exact ⟨rfl, ⟨_, _, rfl⟩, rfl⟩
set_option maxRecDepth 100000 in
set_option maxHeartbeats 2000000 in
theorem put_prec_pan {B : Nat} {ea : Addr} (b : Nat) (st : St) (key value : ByteArray) (k : Int) (s : ByteArray) (vn : Int) (u f : Nat) (x : Bool) (n : Nat) (m : Int) (z : Bool) (w : World) (hn : 4 ≤ n) (hn2 : n ≤ 255) (h : Enc B ea w b st) :
    Calls Tryz.prog 45 #[.pointer (some ⟨b, 0, none⟩), .agg #[.int .i64 6, .string key, .string value, .int .i64 k, .string s, .int .i64 vn, .int .u64 u, .float .f64 f, .bool x, .int .i64 n, .int .i64 m, .bool z]] w fun e w' => (∃ u pv, e = .panicked [{ v := .iface u pv, recovered := false }]) ∧ Fr [] w w' := by
  have HF0 := Lib.hid (pw0_fr 6 key value k s vn u f x n m z w)
  have hS := setPrec_pan b st n hn hn2 (pw0 6 key value k s vn u f x n m z w) (h.fr HF0.out)
  have HS := Lib.hid hS
  have h0 : (0 : Int) ≤ (n : Int) := by omega
  have h3 : (n : Int) ≤ 255 := by omega
  clear hS h hn hn2
  go_enter Tryz.func45, Tryz.ntmps45
  go_wp2_with (go_at_call 85; refine HS.out.mono ?_; rintro e w3 ⟨⟨pt, pv, rfl⟩, rfl⟩)
  exact ⟨rfl, ⟨_, _, rfl⟩, HF0.out⟩
set_option maxRecDepth 100000 in
set_option maxHeartbeats 2000000 in
theorem put_prec_no (b : Nat) (key value : ByteArray) (k : Int) (s : ByteArray) (vn : Int) (u f : Nat) (x : Bool) (n m : Int) (z : Bool) (w : World) (hn : n < 0 ∨ 255 < n) :
    Calls Tryz.prog 45 #[.pointer (some ⟨b, 0, none⟩), .agg #[.int .i64 6, .string key, .string value, .int .i64 k, .string s, .int .i64 vn, .int .u64 u, .float .f64 f, .bool x, .int .i64 n, .int .i64 m, .bool z]] w fun e w' => e = .returned (.bool false) ∧ Fr [] w w' := by
  have HF0 := Lib.hid (pw0_fr 6 key value k s vn u f x n m z w)
  rcases hn with hn | hn
  · go_enter Tryz.func45, Tryz.ntmps45
    go_wp2
    go_ret
    exact ⟨rfl, HF0.out⟩
  · have h0 : ¬ n < 0 := by omega
    go_enter Tryz.func45, Tryz.ntmps45
    go_wp2
    go_ret
    exact ⟨rfl, HF0.out⟩
set_option maxRecDepth 100000 in
set_option maxHeartbeats 2000000 in
theorem put_fieldRaw_no {B : Nat} {ea : Addr} (b : Nat) (key value : ByteArray) (k : Int) (s : ByteArray) (vn : Int) (u f : Nat) (x : Bool) (n m : Int) (z : Bool) (w : World) (hG : Gl B ea w)
    (hM : ∀ w, Gl B ea w → Calls Tryz.prog 35 #[.agg #[.int .i64 k, .string s, .int .i64 vn, .int .u64 u, .float .f64 f, .bool x]] w (Made w none)) :
    Calls Tryz.prog 45 #[.pointer (some ⟨b, 0, none⟩), .agg #[.int .i64 11, .string key, .string value, .int .i64 k, .string s, .int .i64 vn, .int .u64 u, .float .f64 f, .bool x, .int .i64 n, .int .i64 m, .bool z]] w fun e w' => e = .returned (.bool false) ∧ Fr [] w w' := by
  have HF0 := Lib.hid (pw0_fr 11 key value k s vn u f x n m z w)
  have hS := hM (pw0 11 key value k s vn u f x n m z w) (hG.fr HF0.out (by simp))
  have HS := Lib.hid hS; clear hS hM hG
  go_enter Tryz.func45, Tryz.ntmps45
  go_wp2_with (go_at_call 35; refine HS.out.mono ?_; rintro e w3 ⟨hfx, v, rfl, n', a', c', d', k', rfl⟩)
  go_ret
  exact ⟨rfl, (HF0.out.trans hfx).alloc _⟩
theorem said_fieldRaw_no {F : Nat → List UInt8} (hV : ValidSaid) (st : St) (p : PutD) (hop : p.op = 11) (hok : p.v.Ok) (hm : p.v.made = none) : PutSaid F st p := by
  have hM := fun {B : Nat} {ea : Addr} w (hG : Gl B ea w) => value_any hV p.v hok (fun _ => floatValue_any) w hG.toGv
  intro B ea b w hG hE
  obtain ⟨op, key, value, ⟨kind, s, vn, u, f, x⟩, n, m, z⟩ := p
  simp only at hop
  subst hop
  simp only [PutD.step, PutD.cells]
  rw [if_neg (by decide), if_neg (by decide), if_pos (.inr trivial)]
  simp only at hm
  simp only [hm] at hM ⊢
  exact put_fieldRaw_no b key value kind s vn u f x n m z w hG (fun w hG => hM w hG)
theorem said_prec_no (F : Nat → List UInt8) (st : St) (p : PutD) (hop : p.op = 6) (hn : p.n < 0 ∨ 255 < p.n) : PutSaid F st p := by
  obtain ⟨op, key, value, ⟨kind, s, vn, u, f, x⟩, n, m, z⟩ := p
  simp only at hop hn
  subst hop
  intro B ea b w hG hE
  have := put_prec_no b key value kind s vn u f x n m z w hn
  simp only [PutD.step, PutD.cells]
  rw [if_neg (by decide), if_neg (by decide), if_neg (by decide), if_neg (by decide), if_neg (by decide), if_neg (by decide), if_pos trivial, if_neg (by omega)]
  exact this
/-- Each call that is asked about is walked. -/
theorem any_said (hV : ValidSaid) {p : PutD} (hb : PutBd p) {st : St} (hc : spBad p = true ∨ PutCond p st) {K : Nat} (hf : Len K st) (hK : K ≤ 100000000) : PutSaid fTx st p ∨ (p.step fTx st = none ∧ PutPan p) := by
  have k1 : p.key.size ≤ 1000000 := Nat.le_trans hb.key (by decide)
  have v1 : p.value.size ≤ 1000000 := Nat.le_trans hb.value (by decide)
  have b1 := Nat.le_trans hf.1 hK
  have hbad : spBad p = true → (p.op = 2 ∨ p.op = 11) ∧ p.v.made = none ∨ p.op = 6 := fun h => by
    unfold spBad at h
    rw [Bool.or_eq_true, Bool.and_eq_true, Bool.and_eq_true] at h
    rcases h with ⟨h1, h2⟩ | ⟨h1, _⟩
    · exact .inl ⟨of_decide_eq_true h1, can_not p.v (by simpa using h2)⟩
    · exact .inr (of_decide_eq_true h1)
  have hcond : (p.op = 0 ∨ p.op = 9 ∨ p.op = 1 ∨ p.op = 10 ∨ p.op = 3) → PutCond p st := fun ho => by
    rcases hc with h | h
    · rcases hbad h with ⟨h, _⟩ | h <;> omega
    · exact h
  have ho := hb.op
  have hcases : p.op = 0 ∨ p.op = 1 ∨ p.op = 2 ∨ p.op = 3 ∨ p.op = 4 ∨ p.op = 5 ∨ p.op = 6 ∨ p.op = 7 ∨ p.op = 8 ∨ p.op = 9 ∨ p.op = 10 ∨ p.op = 11 := by omega
  rcases hcases with e | e | e | e | e | e | e | e | e | e | e | e
  · exact .inl (said_line fTx hV st p e k1 ((hcond (by omega)).1 (by omega)) b1)
  · exact .inl (said_tag fTx hV st p e k1 v1 ((hcond (by omega)).2 (by omega)) b1 hf.2)
  · cases hm : p.v.made with
    | none =>
      refine .inl ?_
      have hM := fun {B : Nat} {ea : Addr} w (hG : Gl B ea w) => value_any hV p.v hb.ok (fun _ => floatValue_any) w hG.toGv
      intro B ea b w hG hE
      obtain ⟨op, key, value, ⟨kind, s, vn, u, f, x⟩, n, m, z⟩ := p
      simp only at e
      subst e
      simp only [PutD.step, PutD.cells]
      rw [if_neg (by decide), if_neg (by decide), if_pos (.inl trivial)]
      simp only at hm
      simp only [hm] at hM ⊢
      exact put_field_no b key value kind s vn u f x n m z w hG (fun w hG => hM w hG)
    | some y =>
      have hcd : PutCond p st := by
        rcases hc with h | h
        · rcases hbad h with ⟨_, h⟩ | h
          · rw [hm] at h; cases h
          · omega
        · exact h
      exact .inl (said_field hV floatSaid st p e k1 (hcd.2 (by omega)) b1 hb.ok (fun _ => floatValue_any) (fun n hn => (bd_made hb hn).2 n rfl))
  · exact .inl (said_end fTx st p e ((hcond (by omega)).2 (by omega)) b1 hb.p0 hb.p1 hb.m0 hb.m1)
  · exact .inl (said_clear fTx st p e)
  · exact .inl (said_reset fTx st p e)
  · by_cases h3 : 0 ≤ p.n ∧ p.n ≤ 3
    · obtain ⟨q, hq⟩ := Int.eq_ofNat_of_zero_le h3.1
      exact .inl (said_prec fTx st p q e hq (by omega))
    · by_cases h4 : p.n < 0 ∨ 255 < p.n
      · exact .inl (said_prec_no fTx st p e h4)
      · refine .inr ⟨bad_step fTx p (by unfold spBad; rw [Bool.or_eq_true, Bool.and_eq_true, Bool.and_eq_true]; exact .inr ⟨decide_eq_true e, decide_eq_true (by omega)⟩) st, ?_⟩
        obtain ⟨q, hq⟩ := Int.eq_ofNat_of_zero_le (show 0 ≤ p.n by omega)
        intro B ea b w st' _ hE
        obtain ⟨op, key, value, ⟨kind, s, vn, u, f, x⟩, n, m, z⟩ := p
        simp only at e hq h3 h4
        subst e hq
        exact put_prec_pan b st' key value kind s vn u f x q m z w (by omega) (by omega) hE
  · exact .inl (said_lax fTx st p e)
  · exact .inl (said_buf fTx st p e k1)
  · exact .inl (said_lineRaw fTx hV st p e k1 ((hcond (by omega)).1 (by omega)) b1)
  · exact .inl (said_tagRaw fTx hV st p e k1 v1 ((hcond (by omega)).2 (by omega)) b1 hf.2)
  · cases hm : p.v.made with
    | none => exact .inl (said_fieldRaw_no hV st p e hb.ok hm)
    | some y =>
      have hcd : PutCond p st := by
        rcases hc with h | h
        · rcases hbad h with ⟨_, h⟩ | h
          · rw [hm] at h; cases h
          · omega
        · exact h
      exact .inl (said_fieldRaw hV floatSaid st p e k1 (hcd.2 (by omega)) b1 hb.ok (fun _ => floatValue_any) (fun n hn => (bd_made hb hn).2 n rfl) y hm)
/-- Encode of calls that are asked about. -/
theorem asked_encode (hV : ValidSaid) {ea : Addr} {B0 : Nat} (l : List PutD) (hl : ∀ p, p ∈ l → PutBd p) (hn : l.length ≤ 200) (ha : Asked l) (v : Value) (w : World) (hG : Gl B0 ea w) (hP : PutsC w v l) :
    Calls Tryz.prog 23 #[v] w (EncRes fTx l w) :=
  encode_any2 fTx l v w hG hP (by omega) (fun k p st hp hs => by
    have hk := (List.getElem?_eq_some_iff.1 hp).1
    exact any_said hV (hl p (List.mem_of_getElem? hp)) (asked_at ha hp hs) (len_sts hl hs) (by omega))
/-- The same with the calls that take bytes for those that take texts. -/
theorem asked_encode_flip (hV : ValidSaid) {ea : Addr} {B0 : Nat} (l : List PutD) (hl : ∀ p, p ∈ l → PutBd p) (hn : l.length ≤ 200) (ha : Asked l) (v : Value) (w : World) (hG : Gl B0 ea w) (hP : PutsC w v (l.map flipP)) :
    Calls Tryz.prog 23 #[v] w (EncRes fTx (l.map flipP) w) :=
  encode_any2 fTx (l.map flipP) v w hG hP (by rw [List.length_map]; omega) (fun k p st hp hs => by
    rw [List.getElem?_map] at hp
    obtain ⟨q, hq, rfl⟩ := Option.map_eq_some_iff.1 hp
    rw [flip_sts] at hs
    have hk := (List.getElem?_eq_some_iff.1 hq).1
    refine any_said hV (flip_bd (hl q (List.mem_of_getElem? hq))) ?_ (len_sts hl hs) (by omega)
    rcases asked_at ha hq hs with h | h
    · exact .inl (by rw [flip_bad]; exact h)
    · exact .inr (flip_cond h))
end Go.Proofs.YtaaogjhaokaggaaGreatDoor
