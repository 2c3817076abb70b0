import Derived.Test.YtaaogjhaokaggaaGreatDoorLinF
import Derived.Test.YtaaogjhaokaggaaGreatDoorSpX
namespace Go.Proofs.YtaaogjhaokaggaaGreatDoor
open Go.RowKit

/-- The encoder behind calls. -/
def runs (F : Nat → List UInt8) (st : St) : List PutD → Option St
  | [] => some st
  | p :: r => (p.step F st).bind fun s => runs F s r
theorem runs_append (F : Nat → List UInt8) : ∀ (l m : List PutD) (st : St), runs F st (l ++ m) = (runs F st l).bind fun s => runs F s m
  | [], m, st => rfl
  | p :: r, m, st => by
    simp only [List.cons_append, runs]
    cases p.step F st with
    | none => rfl
    | some s => exact runs_append F r m s
theorem sts_runs (F : Nat → List UInt8) (l : List PutD) : ∀ k, k ≤ l.length → sts F l k = runs F St0 (l.take k)
  | 0, _ => by simp [sts, runs]
  | k + 1, h => by
    have hk : k < l.length := by omega
    have he : l[k]? = some l[k] := List.getElem?_eq_getElem hk
    simp only [sts]
    rw [sts_runs F l k (by omega), List.take_add_one, he, runs_append]
    simp only [Option.toList, Option.bind_some]
    congr 1
    funext s
    simp [runs]

/-- The alone encoder a and the one behind the text B (c), within a line: ph: 1 ahead of the first field, 2 behind it. -/
structure Rel (E0 : Nat) (B : List UInt8) (ph : Nat) (a c : St) : Prop where
  ast : a.start = 0
  cs : c.start = B.length
  lax : c.lax = a.lax
  mul : c.mul = a.mul
  st : (a.bad = false ∧ c.bad = false ∧ a.sec = ph ∧ c.sec = ph ∧ c.key = a.key ∧ c.buf = B ++ a.buf ∧ a.err = 0 ∧ c.err = E0) ∨
    (a.bad = true ∧ c.bad = true ∧ a.sec = 0 ∧ a.buf = [] ∧ a.err ≠ 0 ∧ c.buf = B ∧ c.err ≠ 0 ∧ c.sec = (if B = [] then 0 else ph))
/-- The two between lines. -/
structure Bnd (lax : Bool) (mul : Int) (E0 : Nat) (B : List UInt8) (c : St) : Prop where
  buf : c.buf = B
  sec : c.sec = if B = [] then 0 else 5
  err : c.err = E0
  lax : c.lax = lax
  mul : c.mul = mul

theorem len0 {B : List UInt8} : B.length = 0 ↔ B = [] := List.length_eq_zero_iff
theorem rel_line {lax : Bool} {mul : Int} {E0 : Nat} {B : List UInt8} {a c : St} (ha : Bnd lax mul 0 [] a) (hc : Bnd lax mul E0 B c) (m : List UInt8) : Rel E0 B 1 (a.line m) (c.line m) := by
  obtain ⟨ab, ak, at', asec, al, abad, ae, am⟩ := a
  obtain ⟨cb, ck, ct, csec, cl, cbad, ce, cm⟩ := c
  obtain ⟨rfl, h2, rfl, rfl, rfl⟩ := ha
  obtain ⟨rfl, h7, rfl, h9, h10⟩ := hc
  simp only at *
  simp only [if_true] at h2
  subst h2 h9 h10
  have h1 : csec ≠ 1 := by rw [h7]; split <;> decide
  have h05 : ¬ (csec ≠ 0 ∧ csec ≠ 5) := by rw [h7]; split <;> simp
  unfold St.line
  simp only [h1, h05, if_false, Nat.zero_ne_one, List.length_nil]
  by_cases hk : cl = false ∧ keyOk m = false
  · rw [if_pos hk, if_pos hk]
    refine ⟨rfl, rfl, rfl, rfl, .inr ⟨rfl, rfl, by simp [St.fail], by simp [St.fail], by simp [St.fail], by simp [St.fail], ?_, ?_⟩⟩
    · simp only [St.fail]; split <;> simp_all
    · simp only [St.fail, len0]
  · rw [if_neg hk, if_neg hk]
    exact ⟨rfl, rfl, rfl, rfl, .inl ⟨rfl, rfl, rfl, rfl, rfl, by simp, rfl, rfl⟩⟩
theorem rel_fail {E0 : Nat} {B : List UInt8} {ph : Nat} {a c : St} (h : Rel E0 B ph a c) (k : Nat) (hk : k ≠ 0) (ph2 : Nat) (hc : c.sec = ph2 ∨ B = []) : Rel E0 B ph2 (a.fail k) (c.fail k) := by
  have hae : (a.fail k).err ≠ 0 := by simp only [St.fail]; split <;> first | assumption | decide
  have hce : (c.fail k).err ≠ 0 := by simp only [St.fail]; split <;> first | assumption | decide
  have hcb : (c.fail k).buf = B := by
    simp only [St.fail, h.cs]
    rcases h.st with ⟨_, _, _, _, _, h1, _⟩ | ⟨_, _, _, _, _, h1, _⟩ <;> rw [h1] <;> simp
  refine ⟨h.ast, h.cs, h.lax, h.mul, .inr ⟨rfl, rfl, by simp [St.fail, h.ast], by simp [St.fail, h.ast], hae, hcb, hce, ?_⟩⟩
  simp only [St.fail, h.cs, len0]
  by_cases hB : B = []
  · rw [if_pos hB, if_pos hB]
  · rw [if_neg hB, if_neg hB]
    rcases hc with hc | hc
    · exact hc
    · exact absurd hc hB
theorem rel_sec {E0 : Nat} {B : List UInt8} {ph : Nat} {a c : St} (h : Rel E0 B ph a c) : c.sec = ph ∨ B = [] := by
  rcases h.st with ⟨_, _, _, h4, _⟩ | ⟨_, _, _, _, _, _, _, h8⟩
  · exact .inl h4
  · by_cases hB : B = []
    · exact .inr hB
    · rw [if_neg hB] at h8; exact .inl h8
theorem rel_tag {E0 : Nat} {B : List UInt8} {a c : St} (h : Rel E0 B 1 a c) (k v : List UInt8) : Rel E0 B 1 (a.tag k v) (c.tag k v) := by
  have hsec := rel_sec h
  rcases h.st with ⟨h1, h2, h3, h4, h5, h6, h7, h8⟩ | ⟨h1, h2, h3, h4, h5, h6, h7, h8⟩
  · unfold St.tag
    rw [if_neg (show ¬ a.sec ≠ 1 by rw [h3]; decide), if_neg (show ¬ c.sec ≠ 1 by rw [h4]; decide)]
    by_cases hx : a.lax = false ∧ (keyOk k = false ∨ keyOk v = false ∨ keyLe k a.key = true)
    · rw [if_pos hx, if_pos (show c.lax = false ∧ (keyOk k = false ∨ keyOk v = false ∨ keyLe k c.key = true) by rw [h.lax, h5]; exact hx)]
      exact rel_fail h 1 (by decide) 1 (.inl h4)
    · rw [if_neg hx, if_neg (show ¬ (c.lax = false ∧ (keyOk k = false ∨ keyOk v = false ∨ keyLe k c.key = true)) by rw [h.lax, h5]; exact hx)]
      by_cases hl : a.lax = false
      · have hcl : c.lax = false := h.lax.trans hl
        simp only [if_pos hl, if_pos hcl, if_neg (show ¬ a.bad = true by rw [h1]; decide), if_neg (show ¬ c.bad = true by rw [h2]; decide)]
        exact ⟨h.ast, h.cs, h.lax, h.mul, .inl ⟨h1, h2, h3, h4, rfl, by simp [h6], h7, h8⟩⟩
      · have hcl : ¬ c.lax = false := by rw [h.lax]; exact hl
        simp only [if_neg hl, if_neg hcl, if_neg (show ¬ a.bad = true by rw [h1]; decide), if_neg (show ¬ c.bad = true by rw [h2]; decide)]
        exact ⟨h.ast, h.cs, h.lax, h.mul, .inl ⟨h1, h2, h3, h4, h5, by simp [h6], h7, h8⟩⟩
  · have ha : a.tag k v = a.fail 1 := by unfold St.tag; rw [if_pos (by rw [h3]; decide)]
    rw [ha]
    have hf := rel_fail h 1 (by decide) 1 hsec
    by_cases hc : c.tag k v = c.fail 1
    · rw [hc]; exact hf
    · have hc2 : ∃ key, c.tag k v = { c with key := key } := by
        unfold St.tag at hc ⊢
        split
        · rename_i hh; rw [if_pos hh] at hc; exact absurd rfl hc
        · rename_i hh
          rw [if_neg hh] at hc
          split
          · rename_i hh2; rw [if_pos hh2] at hc; exact absurd rfl hc
          · by_cases hl : c.lax = false
            · simp only [if_pos hl]; exact ⟨k, rfl⟩
            · simp only [if_neg hl]; exact ⟨c.key, rfl⟩
      obtain ⟨key, hc2⟩ := hc2
      rw [hc2]
      obtain ⟨q1, q2, q3, q4, q5⟩ := hf
      refine ⟨q1, h.cs, h.lax, h.mul, .inr ?_⟩
      rcases q5 with ⟨z, _⟩ | ⟨z1, z2, z3, z4, z5, z6, z7, z8⟩
      · cases z
      · exact ⟨z1, h2, z3, z4, z5, h6, h7, h8⟩
theorem rel_field {F : Nat → List UInt8} {E0 : Nat} {B : List UInt8} {ph : Nat} {a c : St} (hph : ph = 1 ∨ ph = 2) (h : Rel E0 B ph a c) (k : List UInt8) (x : Val) : Rel E0 B 2 (a.field F k x) (c.field F k x) := by
  have hsec := rel_sec h
  rcases h.st with ⟨h1, h2, h3, h4, h5, h6, h7, h8⟩ | ⟨h1, h2, h3, h4, h5, h6, h7, h8⟩
  · unfold St.field
    have hn : ¬ (ph ≠ 2 ∧ ph ≠ 1) := by omega
    rw [if_neg (show ¬ (a.sec ≠ 2 ∧ a.sec ≠ 1) by rw [h3]; exact hn), if_neg (show ¬ (c.sec ≠ 2 ∧ c.sec ≠ 1) by rw [h4]; exact hn)]
    by_cases hx : a.lax = false ∧ keyOk k = false
    · rw [if_pos hx, if_pos (show c.lax = false ∧ keyOk k = false by rw [h.lax]; exact hx)]
      have h' : Rel E0 B 2 { a with sec := 2 } { c with sec := 2 } := ⟨h.ast, h.cs, h.lax, h.mul, .inl ⟨h1, h2, rfl, rfl, h5, h6, h7, h8⟩⟩
      exact rel_fail h' 1 (by decide) 2 (.inl rfl)
    · rw [if_neg hx, if_neg (show ¬ (c.lax = false ∧ keyOk k = false) by rw [h.lax]; exact hx), if_neg (show ¬ a.bad = true by rw [h1]; decide), if_neg (show ¬ c.bad = true by rw [h2]; decide), h3, h4]
      exact ⟨h.ast, h.cs, h.lax, h.mul, .inl ⟨h1, h2, rfl, rfl, h5, by simp [h6], h7, h8⟩⟩
  · have ha : a.field F k x = a.fail 1 := by unfold St.field; rw [if_pos (by rw [h3]; decide)]
    rw [ha]
    by_cases hB : B = []
    · have hc0 : c.sec = 0 := by rw [h8, if_pos hB]
      have hc : c.field F k x = c.fail 1 := by unfold St.field; rw [if_pos (by rw [hc0]; decide)]
      rw [hc]
      exact rel_fail h 1 (by decide) 2 (.inr hB)
    · have hcp : c.sec = ph := by rw [h8, if_neg hB]
      have h' : Rel E0 B 2 a { c with sec := 2 } := ⟨h.ast, h.cs, h.lax, h.mul, .inr ⟨h1, h2, h3, h4, h5, h6, h7, by rw [if_neg hB]⟩⟩
      unfold St.field
      rw [if_neg (by rw [hcp]; omega)]
      split
      · exact rel_fail h' 1 (by decide) 2 (.inl rfl)
      · have hf := rel_fail h' 1 (by decide) 2 (.inl rfl)
        obtain ⟨q1, q2, q3, q4, q5⟩ := hf
        refine ⟨q1, h.cs, h.lax, h.mul, .inr ?_⟩
        rcases q5 with ⟨z, _⟩ | ⟨z1, z2, z3, z4, z5, z6, z7, z8⟩
        · cases z
        · exact ⟨z1, h2, z3, z4, z5, h6, h7, by rw [if_neg hB]⟩
theorem rel_endl {E0 : Nat} {B : List UInt8} {a c : St} (h : Rel E0 B 2 a c) (t : Option Int) :
    ∃ E1, Bnd a.lax a.mul E1 (B ++ (a.endl t).buf) (c.endl t) ∧ (E1 ≠ 0 ↔ (E0 ≠ 0 ∨ (a.endl t).err ≠ 0)) := by
  have key : ∀ (a' c' : St), a.endl t = a' → c.endl t = c' → (c'.buf = B ++ a'.buf ∧ c'.sec = (if B ++ a'.buf = [] then 0 else 5) ∧ c'.lax = a.lax ∧ c'.mul = a.mul ∧ (c'.err ≠ 0 ↔ (E0 ≠ 0 ∨ a'.err ≠ 0))) →
      ∃ E1, Bnd a.lax a.mul E1 (B ++ (a.endl t).buf) (c.endl t) ∧ (E1 ≠ 0 ↔ (E0 ≠ 0 ∨ (a.endl t).err ≠ 0)) := by
    rintro a' c' rfl rfl ⟨h1, h2, h3, h4, h5⟩
    exact ⟨_, ⟨h1, h2, rfl, h3, h4⟩, h5⟩
  have hl := h.lax
  have hm := h.mul
  rcases h.st with ⟨h1, h2, h3, h4, h5, h6, h7, h8⟩ | ⟨h1, h2, h3, h4, h5, h6, h7, h8⟩
  · cases t with
    | none =>
      refine key { a with sec := 5, buf := a.buf ++ [10] } { c with sec := 5, buf := c.buf ++ [10] } (by simp [St.endl, h3, h1]) (by simp [St.endl, h4, h2]) ⟨by simp [h6], by simp, hl, hm, ?_⟩
      simp [h7, h8]
    | some n =>
      by_cases hr : n < -9223372036854775808 ∨ n > 9223372036854775807
      · refine key ({ a with sec := 5 }.fail 2) ({ c with sec := 5 }.fail 2) (by simp [St.endl, h3, hr]) (by simp [St.endl, h4, hr]) ⟨?_, ?_, hl, hm, ?_⟩
        · simp [St.fail, h.ast, h.cs, h6]
        · simp [St.fail, h.ast, h.cs, h6]
        · simp only [St.fail, h7, h8]
          by_cases hE : E0 = 0 <;> simp [hE]
      · refine key { a with sec := 5, buf := a.buf ++ ([32] ++ Lib.itoa (if a.mul > 0 then n.tdiv a.mul else n) ++ [10]) } { c with sec := 5, buf := c.buf ++ ([32] ++ Lib.itoa (if a.mul > 0 then n.tdiv a.mul else n) ++ [10]) } (by simp [St.endl, h3, h1, hr]) (by simp [St.endl, h4, h2, hr, hm]) ⟨by simp [h6], by simp, hl, hm, ?_⟩
        simp [h7, h8]
  · have ha : a.endl t = a.fail 1 := by unfold St.endl; rw [if_pos (by rw [h3]; decide)]
    have hab : (a.fail 1).buf = [] := by simp [St.fail, h.ast]
    have hae : (a.fail 1).err ≠ 0 := by simp only [St.fail]; split <;> first | assumption | decide
    by_cases hB : B = []
    · have hc0 : c.sec = 0 := by rw [h8, if_pos hB]
      have hc : c.endl t = c.fail 1 := by unfold St.endl; rw [if_pos (by rw [hc0]; decide)]
      have hce : (c.fail 1).err ≠ 0 := by simp only [St.fail]; split <;> first | assumption | decide
      refine key _ _ ha hc ⟨?_, ?_, hl, hm, ?_⟩
      · rw [hab]; simp [St.fail, h.cs, h6]
      · rw [hab]; simp [St.fail, h.cs, hB]
      · exact ⟨fun _ => .inr hae, fun _ => hce⟩
    · have hc2 : c.sec = 2 := by rw [h8, if_neg hB]
      have hBl : B.length ≠ 0 := fun h => hB (len0.1 h)
      have hcn : c.buf = B ++ [] := by rw [h6]; simp
      cases t with
      | none =>
        refine key _ { c with sec := 5 } ha (by simp [St.endl, hc2, h2]) ⟨by rw [hab]; exact hcn, by rw [hab]; simp [hB], hl, hm, ⟨fun _ => .inr hae, fun _ => h7⟩⟩
      | some n =>
        by_cases hr : n < -9223372036854775808 ∨ n > 9223372036854775807
        · have hce : ({ c with sec := 5 }.fail 2).err ≠ 0 := by simp only [St.fail]; split <;> first | assumption | decide
          refine key _ ({ c with sec := 5 }.fail 2) ha (by simp [St.endl, hc2, hr]) ⟨?_, ?_, hl, hm, ⟨fun _ => .inr hae, fun _ => hce⟩⟩
          · rw [hab]; simp [St.fail, h.cs, h6]
          · rw [hab]; simp [St.fail, h.cs, hB]
        · refine key _ { c with sec := 5 } ha (by simp [St.endl, hc2, h2, hr]) ⟨by rw [hab]; exact hcn, by rw [hab]; simp [hB], hl, hm, ⟨fun _ => .inr hae, fun _ => h7⟩⟩

theorem step_head (F : Nat → List UInt8) (st : St) (e : LnD) : (lnHead e).step F st = some (st.line e.name.data.toList) := by
  unfold PutD.step lnHead lnMore
  simp only
  rw [if_pos (by split <;> simp)]
theorem step_tag (F : Nat → List UInt8) (st : St) (e : LnD) (p : ByteArray × ByteArray) : (lnTag (lnMore e) p).step F st = some (st.tag p.1.data.toList p.2.data.toList) := by
  unfold PutD.step lnTag lnMore
  simp only
  split <;> simp
theorem step_field (st : St) (e : LnD) (p : (ByteArray × ByteArray) × VD) (x : Val) (hx : p.2.made = some x) (F : Nat → List UInt8) : (lnField (lnMore e) p).step F st = some (st.field F p.1.1.data.toList x) := by
  unfold PutD.step lnField lnMore
  simp only
  split <;> simp [hx]
theorem step_end (F : Nat → List UInt8) (st : St) (e : LnD) : (lnEnd e).step F st = some (st.endl (if e.non then none else some (e.n + 0))) := by
  unfold PutD.step lnEnd
  simp
theorem rel_lm {E0 : Nat} {B : List UInt8} {ph : Nat} {a c : St} (h : Rel E0 B ph a c) : c.lax = a.lax ∧ c.mul = a.mul := ⟨h.lax, h.mul⟩
theorem fail_lm (a : St) (k : Nat) : (a.fail k).lax = a.lax ∧ (a.fail k).mul = a.mul := ⟨rfl, rfl⟩
theorem tag_lm (a : St) (k v : List UInt8) : (a.tag k v).lax = a.lax ∧ (a.tag k v).mul = a.mul := by
  unfold St.tag
  split
  · exact ⟨rfl, rfl⟩
  · split
    · exact ⟨rfl, rfl⟩
    · simp only
      split <;> split <;> exact ⟨rfl, rfl⟩
theorem field_lm (F : Nat → List UInt8) (a : St) (k : List UInt8) (x : Val) : (a.field F k x).lax = a.lax ∧ (a.field F k x).mul = a.mul := by
  unfold St.field
  split
  · exact ⟨rfl, rfl⟩
  · split
    · exact ⟨rfl, rfl⟩
    · split <;> exact ⟨rfl, rfl⟩
theorem line_lm (a : St) (m : List UInt8) : (a.line m).lax = a.lax ∧ (a.line m).mul = a.mul := by
  unfold St.line
  simp only
  split <;> split <;> exact ⟨rfl, rfl⟩

theorem rel_tags (F : Nat → List UInt8) (e : LnD) {E0 : Nat} {B : List UInt8} : ∀ (ts : List (ByteArray × ByteArray)) (a c : St), Rel E0 B 1 a c → ∃ a' c', runs F a (ts.map (lnTag (lnMore e))) = some a' ∧ runs F c (ts.map (lnTag (lnMore e))) = some c' ∧ Rel E0 B 1 a' c' ∧ a'.lax = a.lax ∧ a'.mul = a.mul
  | [], a, c, h => ⟨a, c, rfl, rfl, h, rfl, rfl⟩
  | p :: ts, a, c, h => by
    obtain ⟨a', c', h1, h2, h3, h4, h5⟩ := rel_tags F e ts _ _ (rel_tag h p.1.data.toList p.2.data.toList)
    refine ⟨a', c', ?_, ?_, h3, h4.trans (tag_lm _ _ _).1, h5.trans (tag_lm _ _ _).2⟩
    · simp only [List.map_cons, runs, step_tag, Option.bind_some]; exact h1
    · simp only [List.map_cons, runs, step_tag, Option.bind_some]; exact h2
theorem rel_fields (F : Nat → List UInt8) (e : LnD) {E0 : Nat} {B : List UInt8} : ∀ (fs : List ((ByteArray × ByteArray) × VD)) (ph : Nat) (_ : ph = 1 ∨ ph = 2) (a c : St), (∀ p, p ∈ fs → p.2.can = true) → Rel E0 B ph a c → ∃ a' c', runs F a (fs.map (lnField (lnMore e))) = some a' ∧ runs F c (fs.map (lnField (lnMore e))) = some c' ∧ Rel E0 B (if fs = [] then ph else 2) a' c' ∧ a'.lax = a.lax ∧ a'.mul = a.mul
  | [], ph, _, a, c, _, h => ⟨a, c, rfl, rfl, by simpa using h, rfl, rfl⟩
  | p :: fs, ph, hph, a, c, hc, h => by
    obtain ⟨x, hx, _⟩ := can_made p.2 (hc p (by simp))
    obtain ⟨a', c', h1, h2, h3, h4, h5⟩ := rel_fields F e fs 2 (.inr rfl) _ _ (fun q hq => hc q (by simp [hq])) (rel_field (F := F) hph h p.1.1.data.toList x)
    refine ⟨a', c', ?_, ?_, ?_, h4.trans (field_lm _ _ _ _).1, h5.trans (field_lm _ _ _ _).2⟩
    · simp only [List.map_cons, runs, step_field _ e p x hx, Option.bind_some]; exact h1
    · simp only [List.map_cons, runs, step_field _ e p x hx, Option.bind_some]; exact h2
    · have : (if fs = [] then 2 else 2) = 2 := by split <;> rfl
      rw [this] at h3
      simpa using h3
/-- One entry, alone and behind others. -/
theorem each_line (F : Nat → List UInt8) {lax : Bool} {mul : Int} {E0 : Nat} {B : List UInt8} {a c : St} (ha : Bnd lax mul 0 [] a) (hc : Bnd lax mul E0 B c) (e : LnD) (hg : LnGood e) :
    ∃ a' c' E1, runs F a (lnPuts e) = some a' ∧ runs F c (lnPuts e) = some c' ∧ Bnd lax mul E1 (B ++ a'.buf) c' ∧ (E1 ≠ 0 ↔ (E0 ≠ 0 ∨ a'.err ≠ 0)) := by
  have h0 := rel_line ha hc e.name.data.toList
  obtain ⟨a1, c1, h1, h2, h3, h4, h5⟩ := rel_tags F e e.tags _ _ h0
  have hne : e.fields.zip e.values ≠ [] := by
    intro h
    have := congrArg List.length h
    simp only [List.length_zip, List.length_nil, hg.vals] at this
    have := hg.one
    omega
  obtain ⟨a2, c2, k1, k2, k3, k4, k5⟩ := rel_fields F e (e.fields.zip e.values) 1 (.inl rfl) a1 c1 (fun p hp => hg.can p.2 (List.of_mem_zip hp).2) h3
  rw [if_neg hne] at k3
  obtain ⟨E1, hb, hi⟩ := rel_endl k3 (if e.non then none else some (e.n + 0))
  have hB2 : Bnd lax mul E1 (B ++ (a2.endl (if e.non then none else some (e.n + 0))).buf) (c2.endl (if e.non then none else some (e.n + 0))) := by
    have el : a2.lax = lax := k4.trans (h4.trans ((line_lm a _).1.trans ha.lax))
    have em : a2.mul = mul := k5.trans (h5.trans ((line_lm a _).2.trans ha.mul))
    rw [el, em] at hb
    exact hb
  have hz1 : (e.fields.zip e.values).take e.fields.length = e.fields.zip e.values := List.take_of_length_le (by simp only [List.length_zip]; omega)
  have hz2 : e.tags.take e.tags.length = e.tags := List.take_of_length_le (Nat.le_refl _)
  refine ⟨a2.endl (if e.non then none else some (e.n + 0)), c2.endl (if e.non then none else some (e.n + 0)), E1, ?_, ?_, hB2, hi⟩
  all_goals
    unfold lnPuts lnFields lnTags
    rw [hz1, hz2, List.cons_append, List.cons_append]
    simp only [runs, step_head, Option.bind_some]
    rw [List.append_assoc, runs_append]
  · rw [h1]
    simp only [Option.bind_some]
    rw [runs_append, k1]
    simp only [Option.bind_some, runs, step_end]
  · rw [h2]
    simp only [Option.bind_some]
    rw [runs_append, k2]
    simp only [Option.bind_some, runs, step_end]
end Go.Proofs.YtaaogjhaokaggaaGreatDoor
