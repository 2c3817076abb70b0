import Derived.Test.YtaaogjhaokaggaaGreatDoorPutR
import Derived.Test.YtaaogjhaokaggaaGreatDoorEachP
import Derived.Test.YtaaogjhaokaggaaGreatDoorSaidX
import Derived.Test.YtaaogjhaokaggaaGreatDoorLinF
import Derived.Test.YtaaogjhaokaggaaGreatDoorLawX
namespace Go.Proofs.YtaaogjhaokaggaaGreatDoor
open Go.RowKit

theorem said_lineRaw (F : Nat → List UInt8) (hV : ValidSaid) (st : St) (p : PutD) (hop : p.op = 9) (hk : p.key.size ≤ 1000000) (hst : st.sec = 1 → st.start ≤ st.buf.length) (hlen : st.buf.length ≤ 100000000) : PutSaid F st p := by
  obtain ⟨op, key, value, ⟨kind, s, vn, u, f, x⟩, n, m, z⟩ := p
  simp only at hop hk
  subst hop
  intro B ea b w hG hE
  exact put_lineRaw b st key value kind s vn u f x n m z w hG hE hV hk hst hlen
theorem said_tagRaw (F : Nat → List UInt8) (hV : ValidSaid) (st : St) (p : PutD) (hop : p.op = 10) (hk : p.key.size ≤ 1000000) (hv : p.value.size ≤ 1000000) (hst : st.start ≤ st.buf.length) (hlen : st.buf.length ≤ 100000000) (hkl : st.key.length ≤ 1000000) : PutSaid F st p := by
  obtain ⟨op, key, value, ⟨kind, s, vn, u, f, x⟩, n, m, z⟩ := p
  simp only at hop hk hv
  subst hop
  intro B ea b w hG hE
  exact put_tagRaw b st key value kind s vn u f x n m z w hG hE hV hk hv hst hlen hkl
theorem said_prec (F : Nat → List UInt8) (st : St) (p : PutD) (q : Nat) (hop : p.op = 6) (hn : p.n = (q : Int)) (hq : q ≤ 3) : PutSaid F st p := by
  obtain ⟨op, key, value, ⟨kind, s, vn, u, f, x⟩, n, m, z⟩ := p
  simp only at hop hn
  subst hop hn
  intro B ea b w hG hE
  have := put_prec b st key value kind s vn u f x q m z w hq hE
  simp only [PutD.step, PutD.cells]
  rw [if_neg (by decide), if_neg (by decide), if_neg (by decide), if_neg (by decide), if_neg (by decide), if_neg (by decide), if_pos trivial, if_pos ⟨Int.natCast_nonneg _, by omega⟩]
  exact this
theorem said_fieldRaw {F : Nat → List UInt8} {fin : Nat → Prop} (hV : ValidSaid) (hF : FloatSaid F fin) (st : St) (p : PutD) (hop : p.op = 11) (hk : p.key.size ≤ 1000000) (hst : st.start ≤ st.buf.length) (hlen : st.buf.length ≤ 100000000)
    (hok : p.v.Ok) (hFV : p.v.kind = 4 → FloatValueSaid) (hfin : ∀ n, p.v.made = some (.flt n) → fin n) (y : Val) (hy : p.v.made = some y) : PutSaid F st p := by
  have hM := fun {B : Nat} {ea : Addr} w (hG : Gl B ea w) => value_any hV p.v hok hFV w hG.toGv
  intro B ea b w hG hE
  obtain ⟨op, key, value, ⟨kind, s, vn, u, f, x⟩, n, m, z⟩ := p
  simp only at hop hk
  subst hop
  simp only [PutD.step, PutD.cells]
  rw [if_neg (by decide), if_neg (by decide), if_pos (.inr trivial)]
  simp only at hy
  simp only [hy] at hM ⊢
  refine put_fieldRaw b st key value kind s vn u f x n m z w hG hE hV hF hk hst hlen y (fun n hn => hfin n (by rw [hy, hn])) (fun t ht => ?_) (fun w hG => hM w hG)
  have := hok.s
  simp only [VD.made] at hy
  subst ht
  repeat' split at hy
  all_goals first | (cases hy; simpa using this) | cases hy

/-- A call that FnEncodeEach and its kin make. -/
structure Nice (p : PutD) : Prop where
  op : p.op = 0 ∨ p.op = 1 ∨ p.op = 2 ∨ p.op = 3 ∨ p.op = 4 ∨ p.op = 6 ∨ p.op = 7 ∨ p.op = 9 ∨ p.op = 10 ∨ p.op = 11
  key : p.key.size ≤ 2000
  value : p.value.size ≤ 2000
  s : p.v.s.size ≤ 2000
  ok : p.v.Ok
  flt : p.v.kind = 4 → p.v.f < 18446744073709551616
  can : p.op = 2 ∨ p.op = 11 → p.v.can = true
  prec : p.op = 6 → 0 ≤ p.n ∧ p.n ≤ 3
  n0 : -9223372036854775808 ≤ p.n
  n1 : p.n ≤ 9223372036854775807
  m0 : -9223372036854775808 ≤ p.more
  m1 : p.more ≤ 9223372036854775807
theorem nice_made {p : PutD} (h : Nice p) (hop : p.op = 2 ∨ p.op = 11) : ∃ y, p.v.made = some y ∧ (valText fTx y).length ≤ 10000 ∧ ∀ n, y = .flt n → finOk n := by
  obtain ⟨y, h1, h2⟩ := can_made p.v (h.can hop)
  refine ⟨y, h1, ?_, fun n hn => ?_⟩
  · rw [h2]
    have h3 := h.s
    have h5 := spEsc_len 4 p.v.s.data.toList
    have h6 : p.v.s.data.toList.length = p.v.s.size := by simp
    have e1 := Lib.itoa_length_le p.v.n h.ok.n0 h.ok.n1
    have e2 : (Lib.decDigits p.v.u).length ≤ 20 := by rw [Lib.decDigits_length]; exact Lib.nDigits_le20 _ h.ok.u
    have e3 := fTx_len p.v.f
    have e4 := formatBool_len p.v.b
    unfold VD.text
    repeat' split
    all_goals (try simp only [List.length_append, List.length_cons, List.length_nil])
    all_goals omega
  · subst hn
    have hv := h1
    unfold VD.made at hv
    repeat' split at hv
    all_goals first | (cases hv; exact ⟨h.flt (by assumption), by assumption⟩) | cases hv
theorem tdiv_in (n m : Int) (h0 : -9223372036854775808 ≤ n) (h1 : n ≤ 9223372036854775807) (hm : 0 < m) : -9223372036854775808 ≤ n.tdiv m ∧ n.tdiv m ≤ 9223372036854775807 := by
  rcases Int.le_total 0 n with h | h
  · rw [Int.tdiv_eq_ediv_of_nonneg h]
    have h2 := Int.ediv_nonneg h (Int.le_of_lt hm)
    have h3 := Int.ediv_le_self m h
    omega
  · obtain ⟨k, rfl⟩ : ∃ k, n = -k := ⟨-n, by omega⟩
    rw [Int.neg_tdiv, Int.tdiv_eq_ediv_of_nonneg (by omega)]
    have h2 := Int.ediv_nonneg (show 0 ≤ k by omega) (Int.le_of_lt hm)
    have h3 := Int.ediv_le_self m (show 0 ≤ k by omega)
    omega
theorem Fine.endl {K : Nat} {st : St} (h : Fine K st) (t : Option Int) : Fine (K + 30) (st.endl t) := by
  have hf := fun k => (Fine.le (h.fail k) (show K ≤ K + 30 by omega))
  unfold St.endl
  split
  · exact hf 1
  · cases t with
    | none =>
      simp only
      split
      · exact ⟨h.1, Nat.le_trans h.2.1 (by omega), h.2.2⟩
      · obtain ⟨h1, h2, h3⟩ := h
        exact ⟨by simp; omega, by simp; omega, h3⟩
    | some n =>
      simp only
      split
      · have h' : Fine K { st with sec := 5 } := h
        exact Fine.le (h'.fail 2) (by omega)
      · rename_i hr
        split
        · exact ⟨h.1, Nat.le_trans h.2.1 (by omega), h.2.2⟩
        · have hq : -9223372036854775808 ≤ (if st.mul > 0 then n.tdiv st.mul else n) ∧ (if st.mul > 0 then n.tdiv st.mul else n) ≤ 9223372036854775807 := by
            split
            · rename_i hm; exact tdiv_in n st.mul (by omega) (by omega) hm
            · omega
          have hl := Lib.itoa_length_le _ hq.1 hq.2
          obtain ⟨h1, h2, h3⟩ := h
          refine ⟨?_, ?_, h3⟩
          · simp only [List.length_append, List.length_cons, List.length_nil]; omega
          · simp only [List.length_append, List.length_cons, List.length_nil]; omega
theorem nice_step {p : PutD} (h : Nice p) {K : Nat} {st : St} (hf : Fine K st) : ∃ st', p.step fTx st = some st' ∧ Fine (K + 20000) st' := by
  have lk : p.key.data.toList.length ≤ 2000 := by have := h.key; simpa using this
  have lv : p.value.data.toList.length ≤ 2000 := by have := h.value; simpa using this
  have hn := nice_made h
  have hpr := h.prec
  unfold PutD.step
  rcases h.op with e | e | e | e | e | e | e | e | e | e <;> rw [e] <;> skip <;> simp (decide := true) only [if_true, if_false]
  · exact ⟨_, rfl, (hf.line _ 2000 lk).le (by omega)⟩
  · exact ⟨_, rfl, (hf.tag _ _ 2000 lk lv (by decide)).le (by omega)⟩
  · obtain ⟨y, h1, h2, _⟩ := hn (.inl e)
    rw [h1]
    exact ⟨_, rfl, (hf.field fTx _ y 2000 10000 lk h2).le (by omega)⟩
  · exact ⟨_, rfl, (hf.endl _).le (by omega)⟩
  · exact ⟨_, rfl, ⟨hf.1, Nat.le_trans hf.2.1 (by omega), hf.2.2⟩⟩
  · rw [if_pos (hpr e)]
    exact ⟨_, rfl, ⟨hf.1, Nat.le_trans hf.2.1 (by omega), hf.2.2⟩⟩
  · exact ⟨_, rfl, ⟨hf.1, Nat.le_trans hf.2.1 (by omega), hf.2.2⟩⟩
  · exact ⟨_, rfl, (hf.line _ 2000 lk).le (by omega)⟩
  · exact ⟨_, rfl, (hf.tag _ _ 2000 lk lv (by decide)).le (by omega)⟩
  · obtain ⟨y, h1, h2, _⟩ := hn (.inr e)
    rw [h1]
    exact ⟨_, rfl, (hf.field fTx _ y 2000 10000 lk h2).le (by omega)⟩
theorem nice_said (hV : ValidSaid) {p : PutD} (h : Nice p) {K : Nat} {st : St} (hf : Fine K st) (hK : K ≤ 100000000) : PutSaid fTx st p := by
  have k1 : p.key.size ≤ 1000000 := Nat.le_trans h.key (by decide)
  have v1 : p.value.size ≤ 1000000 := Nat.le_trans h.value (by decide)
  have b1 := Nat.le_trans hf.2.1 hK
  rcases h.op with e | e | e | e | e | e | e | e | e | e
  · exact said_line fTx hV st p e k1 (fun _ => hf.1) b1
  · exact said_tag fTx hV st p e k1 v1 hf.1 b1 hf.2.2
  · obtain ⟨y, h1, h2, h3⟩ := nice_made h (.inl e)
    exact said_field hV floatSaid st p e k1 hf.1 b1 h.ok (fun _ => floatValue_any) (fun n hn => h3 n (by rw [h1] at hn; exact Option.some.inj hn))
  · exact said_end fTx st p e hf.1 b1 h.n0 h.n1 h.m0 h.m1
  · exact said_clear fTx st p e
  · obtain ⟨q, hq⟩ := Int.eq_ofNat_of_zero_le (h.prec e).1
    exact said_prec fTx st p q e hq (by have := (h.prec e).2; omega)
  · exact said_lax fTx st p e
  · exact said_lineRaw fTx hV st p e k1 (fun _ => hf.1) b1
  · exact said_tagRaw fTx hV st p e k1 v1 hf.1 b1 hf.2.2
  · obtain ⟨y, h1, h2, h3⟩ := nice_made h (.inr e)
    exact said_fieldRaw hV floatSaid st p e k1 hf.1 b1 h.ok (fun _ => floatValue_any) (fun n hn => h3 n (by rw [h1] at hn; exact Option.some.inj hn)) y h1
theorem nice_sts (l : List PutD) (hl : ∀ p, p ∈ l → Nice p) : ∀ k, k ≤ l.length → ∃ st, sts fTx l k = some st ∧ Fine (20000 * k) st
  | 0, _ => ⟨St0, rfl, by decide, by decide, by decide⟩
  | k + 1, hk => by
    obtain ⟨st, h1, h2⟩ := nice_sts l hl k (by omega)
    have he : l[k]? = some l[k] := List.getElem?_eq_getElem (by omega)
    obtain ⟨st', h3, h4⟩ := nice_step (hl l[k] (List.getElem_mem _)) h2
    refine ⟨st', ?_, h4.le (by omega)⟩
    simp only [sts, h1, he, Option.bind_some]
    exact h3
/-- Encode of nice calls. -/
theorem nice_encode (hV : ValidSaid) {ea : Addr} {B0 : Nat} (l : List PutD) (hl : ∀ p, p ∈ l → Nice p) (hn : l.length ≤ 4000) (v : Value) (w : World) (hG : Gl B0 ea w) (hP : OwnC w 38 12 v l.length (l.flatMap (·.cells.toList))) :
    Calls Tryz.prog 23 #[v] w (EncRes fTx l w) :=
  encode_any fTx l v w hG (PutsIn.of hP) (by omega) (fun k p st hp hs => by
    have hk := (List.getElem?_eq_some_iff.1 hp).1
    obtain ⟨st', h1, h2⟩ := nice_sts l hl k (by omega)
    rw [hs] at h1
    cases h1
    exact nice_said hV (hl p (List.mem_of_getElem? hp)) h2 (by omega))
end Go.Proofs.YtaaogjhaokaggaaGreatDoor
namespace Go.Proofs.YtaaogjhaokaggaaGreatDoor
open Go.RowKit

def laxP (lax : Bool) : PutD := ⟨7, ⟨#[]⟩, ⟨#[]⟩, VD0, 0, 0, lax⟩
def precP (q : Int) : PutD := ⟨6, ⟨#[]⟩, ⟨#[]⟩, VD0, q, 0, false⟩
def beginP (lax : Bool) (q : Int) : List PutD := [laxP lax, precP q]
def stB (lax : Bool) (mul : Int) : St := { St0 with lax := lax, mul := mul }
theorem begin_runs (F : Nat → List UInt8) (lax : Bool) (q : Int) (h0 : 0 ≤ q) (h1 : q ≤ 3) (r : List PutD) : runs F St0 (beginP lax q ++ r) = runs F (stB lax (ticks q.toNat)) r := by
  unfold beginP
  simp only [List.cons_append, List.nil_append, runs]
  have e1 : (laxP lax).step F St0 = some { St0 with lax := lax } := by unfold PutD.step laxP; simp
  have e2 : (precP q).step F { St0 with lax := lax } = some (stB lax (ticks q.toNat)) := by
    unfold PutD.step precP
    simp only []
    simp (decide := true) only [if_true, if_false]
    rw [if_pos ⟨h0, h1⟩]
    rfl
  rw [e1]
  simp only [Option.bind_some]
  rw [e2]
  rfl
theorem bnd_B (lax : Bool) (mul : Int) : Bnd lax mul 0 [] (stB lax mul) := ⟨rfl, rfl, rfl, rfl, rfl⟩
noncomputable def aloneSt (lax : Bool) (mul : Int) (e : LnD) : St := (runs fTx (stB lax mul) (lnPuts e)).getD St0
noncomputable def wantT (lax : Bool) (mul : Int) (l : List LnD) : List UInt8 := l.flatMap fun e => (aloneSt lax mul e).buf
noncomputable def firstT' (lax : Bool) (mul : Int) (l : List LnD) : Bool := l.any fun e => (aloneSt lax mul e).err != 0
theorem alone_runs (lax : Bool) (mul : Int) (e : LnD) (hg : LnGood e) : runs fTx (stB lax mul) (lnPuts e) = some (aloneSt lax mul e) := by
  obtain ⟨a', c', E1, h1, _⟩ := each_line fTx (bnd_B lax mul) (bnd_B lax mul) e hg
  unfold aloneSt
  rw [h1]
  rfl
/-- THE PLAIN LAW OF FnEncodeEach. -/
theorem each_total (lax : Bool) (mul : Int) : ∀ (l : List LnD), (∀ e, e ∈ l → LnGood e) → ∀ (E0 : Nat) (B : List UInt8) (c : St), Bnd lax mul E0 B c → ∃ c' E1, runs fTx c (l.flatMap lnPuts) = some c' ∧ Bnd lax mul E1 (B ++ wantT lax mul l) c' ∧ (E1 ≠ 0 ↔ (E0 ≠ 0 ∨ firstT' lax mul l = true))
  | [], _, E0, B, c, h => ⟨c, E0, rfl, by simpa [wantT] using h, by simp [firstT']⟩
  | e :: l, hg, E0, B, c, h => by
    obtain ⟨a', c', E1, h1, h2, h3, h4⟩ := each_line fTx (bnd_B lax mul) h e (hg e (by simp))
    have ha : a' = aloneSt lax mul e := by
      have := alone_runs lax mul e (hg e (by simp))
      rw [h1] at this
      exact Option.some.inj this
    subst ha
    obtain ⟨c2, E2, k1, k2, k3⟩ := each_total lax mul l (fun x hx => hg x (by simp [hx])) E1 _ c' h3
    refine ⟨c2, E2, ?_, ?_, ?_⟩
    · rw [List.flatMap_cons, runs_append, h2]
      exact k1
    · have e1 : B ++ wantT lax mul (e :: l) = B ++ (aloneSt lax mul e).buf ++ wantT lax mul l := by simp [wantT]
      rw [e1]; exact k2
    · rw [k3, h4]
      simp only [firstT', List.any_cons, Bool.or_eq_true, bne_iff_ne, ne_eq]
      constructor
      · rintro ((h | h) | h)
        · exact .inl h
        · exact .inr (.inl h)
        · exact .inr (.inr h)
      · rintro (h | h | h)
        · exact .inl (.inl h)
        · exact .inl (.inr h)
        · exact .inr h
end Go.Proofs.YtaaogjhaokaggaaGreatDoor
namespace Go.Proofs.YtaaogjhaokaggaaGreatDoor
open Go.RowKit

/-- append of a slice of calls to a slice of calls. -/
theorem wpAppP (w : World) {ops : Array Oper} {rest : List Oper} {o : Oper} {a : Act} {Q : Exit → Act → World → Prop}
    (hg : o.guard = none) (s x : Operand) (hop : o.op = Op.call { callee := Callee.builtin Builtin.append, args := #[s, x], argTypes := #[39, 39] })
    (v xv : Value) (l m : List PutD) (hv : a.eval s = v) (hx : a.eval x = xv) (hown : OwnC w 38 12 v l.length (cellsOf l)) (hs : OwnC w 38 12 xv m.length (cellsOf m)) (hlen : l.length + m.length ≤ 1000000000)
    (hK : ∀ v' w', OwnC w' 38 12 v' (l ++ m).length (cellsOf (l ++ m)) → Fr v.ownBlock.toList w w' → (v'.ownBlock = v.ownBlock ∨ v'.ownBlock = some w.heap.size) → wpList Tryz.prog ops Q rest (a.put o.dst v') w') :
    wpList Tryz.prog ops Q (o :: rest) a w := by
  obtain ⟨i38, hi38, hz38, hs38, hb38⟩ := parts_c info38
  refine wpList_append_c w hg s x 39 39 hop 38 i38 _ Tryz.underlying39 hi38 hz38 12 hs38 hb38 rfl v l.length m.length (cellsOf l) (cellsOf m) xv hv hx hown (hs.src Tryz.underlying39) hlen (fun v' w' h1 h2 h3 => hK v' w' ?_ h2 h3)
  have e : cellsOf (l ++ m) = cellsOf l ++ cellsOf m := by simp [cellsOf]
  rw [e, List.length_append]
  exact h1
/-- The calls of the first k entries. -/
def lnAll (l : List LnD) : List PutD := l.flatMap lnPuts
theorem nice_vd0 : VD0.Ok := ⟨by decide, by decide, by decide, by decide⟩
theorem mem_le_sum {α : Type} (f : α → Nat) : ∀ (l : List α) (x : α), x ∈ l → f x ≤ (l.map f).sum
  | [], _, h => by cases h
  | y :: l, x, h => by
    simp only [List.map_cons, List.sum_cons]
    rcases List.mem_cons.1 h with rfl | h
    · omega
    · have := mem_le_sum f l x h
      omega
theorem nice_plain (op : Int) (key value : ByteArray) (hop : op = 0 ∨ op = 1 ∨ op = 9 ∨ op = 10) (hk : key.size ≤ 2000) (hv : value.size ≤ 2000) : Nice ⟨op, key, value, VD0, 0, 0, false⟩ where
  op := by simp only; omega
  key := hk
  value := hv
  s := show (0 : Nat) ≤ 2000 by decide
  ok := nice_vd0
  flt := fun h => by cases h
  can := fun h => by simp only at h; omega
  prec := fun _ => ⟨show (0 : Int) ≤ 0 by decide, show (0 : Int) ≤ 3 by decide⟩
  n0 := show (-9223372036854775808 : Int) ≤ 0 by decide
  n1 := show (0 : Int) ≤ 9223372036854775807 by decide
  m0 := show (-9223372036854775808 : Int) ≤ 0 by decide
  m1 := show (0 : Int) ≤ 9223372036854775807 by decide
theorem nice_puts (e : LnD) (hg : LnGood e) (ho : LnOk e) (hs : lnSz e ≤ 2000) : ∀ p, p ∈ lnPuts e → Nice p := by
  have hm : lnMore e = 0 ∨ lnMore e = 9 := by unfold lnMore; split <;> simp
  unfold lnSz at hs
  intro p hp
  unfold lnPuts lnFields lnTags at hp
  rw [show (e.fields.zip e.values).take e.fields.length = e.fields.zip e.values from List.take_of_length_le (by simp only [List.length_zip]; omega), show e.tags.take e.tags.length = e.tags from List.take_of_length_le (Nat.le_refl _)] at hp
  simp only [List.mem_append, List.mem_cons, List.mem_map] at hp
  rcases hp with ((rfl | ⟨t, ht, rfl⟩) | ⟨t, ht, rfl⟩) | (rfl | h)
  · exact nice_plain _ _ _ (by omega) (by omega) (by decide)
  · have h1 : t.1.size + t.2.size ≤ (e.tags.map tagSz).sum := mem_le_sum tagSz e.tags t ht
    exact nice_plain _ _ _ (by omega) (by omega) (by omega)
  · have h1 : t.1.1.size + t.2.s.size ≤ ((e.fields.zip e.values).map fldSz).sum := mem_le_sum fldSz _ t ht
    have hv := (List.of_mem_zip ht).2
    have h2 := ho.vals t.2 hv
    have h3 := hg.can t.2 hv
    exact {
      op := by simp only [lnField]; omega
      key := by simp only [lnField]; omega
      value := show (0 : Nat) ≤ 2000 by decide
      s := by simp only [lnField]; omega
      ok := ⟨by simp only [lnField]; omega, h2.1, h2.2.1, h2.2.2.1⟩
      flt := fun _ => h2.2.2.2
      can := fun _ => h3
      prec := fun h => by simp only [lnField] at h; omega
      n0 := show (-9223372036854775808 : Int) ≤ 0 by decide
      n1 := show (0 : Int) ≤ 9223372036854775807 by decide
      m0 := show (-9223372036854775808 : Int) ≤ 0 by decide
      m1 := show (0 : Int) ≤ 9223372036854775807 by decide }
  · exact {
      op := .inr (.inr (.inr (.inl rfl)))
      key := show (0 : Nat) ≤ 2000 by decide
      value := show (0 : Nat) ≤ 2000 by decide
      s := show (0 : Nat) ≤ 2000 by decide
      ok := nice_vd0
      flt := fun h => by cases h
      can := fun h => by simp only [lnEnd] at h; omega
      prec := fun h => by simp only [lnEnd] at h; omega
      n0 := ho.n0
      n1 := ho.n1
      m0 := show (-9223372036854775808 : Int) ≤ 0 by decide
      m1 := show (0 : Int) ≤ 9223372036854775807 by decide }
  · cases h
theorem lnPuts_len (e : LnD) (hg : LnGood e) : (lnPuts e).length = 2 + lnPt e := by
  have := hg.vals
  simp only [lnPuts, lnFields, lnTags, lnPt, List.length_append, List.length_cons, List.length_map, List.length_take, List.length_zip, List.length_nil]
  omega
theorem lnAll_len : ∀ (l : List LnD), (∀ e, e ∈ l → LnGood e) → (lnAll l).length = 2 * l.length + (l.map lnPt).sum
  | [], _ => rfl
  | e :: l, h => by
    have h1 := lnPuts_len e (h e (by simp))
    have h2 := lnAll_len l (fun x hx => h x (by simp [hx]))
    unfold lnAll at *
    simp only [List.flatMap_cons, List.length_append, List.map_cons, List.sum_cons, List.length_cons]
    omega
theorem stoodL_last (F : Nat → List UInt8) (l : List PutD) (k : Nat) (st : St) (h : sts F l (k + 1) = some st) : (stoodL F l (k + 1))[(stoodL F l k).length]? = some (.bool (st.err != 0)) := by
  simp [stoodL, h, stood]
end Go.Proofs.YtaaogjhaokaggaaGreatDoor
