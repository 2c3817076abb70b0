import Derived.Test.YtaaogjhaokaggaaGreatDoorEachR
namespace Go.Proofs.YtaaogjhaokaggaaGreatDoor
open Go.RowKit

/-- Where the parts of what stood behind a call lie. -/
theorem stoodL_len (F : Nat → List UInt8) (l : List PutD) : ∀ n, (∀ k, k ≤ n → ∃ st, sts F l k = some st) → (stoodL F l n).length = 3 * n
  | 0, _ => rfl
  | n + 1, h => by
    obtain ⟨st, hs⟩ := h (n + 1) (Nat.le_refl _)
    have h1 := stoodL_len F l n (fun k hk => h k (by omega))
    have e : stoodL F l (n + 1) = stoodL F l n ++ stood st := by simp only [stoodL, hs]
    rw [e, List.length_append, h1]
    simp only [stood, List.length_cons, List.length_nil]
    omega
theorem stoodL_at (F : Nat → List UInt8) (l : List PutD) : ∀ n j st, j < n → (∀ k, k ≤ n → ∃ st, sts F l k = some st) → sts F l (j + 1) = some st →
    (stoodL F l n)[j * 3]? = some (.bool (st.err != 0)) ∧ (stoodL F l n)[j * 3 + 1]? = some (.bool (st.err == 2)) ∧ (stoodL F l n)[j * 3 + 2]? = some (.int .i64 st.buf.length)
  | 0, _, _, hj, _, _ => absurd hj (Nat.not_lt_zero _)
  | n + 1, j, st, hj, h, hs => by
    have hl := stoodL_len F l n (fun k hk => h k (by omega))
    obtain ⟨st2, hs2⟩ := h (n + 1) (Nat.le_refl _)
    have e : stoodL F l (n + 1) = stoodL F l n ++ stood st2 := by simp only [stoodL, hs2]
    rw [e]
    by_cases hjn : j = n
    · subst hjn
      rw [hs] at hs2
      cases hs2
      rw [List.getElem?_append_right (by omega), List.getElem?_append_right (by omega), List.getElem?_append_right (by omega), hl, show j * 3 - 3 * j = 0 by omega, show j * 3 + 1 - 3 * j = 1 by omega, show j * 3 + 2 - 3 * j = 2 by omega]
      exact ⟨rfl, rfl, rfl⟩
    · rw [List.getElem?_append_left (by omega), List.getElem?_append_left (by omega), List.getElem?_append_left (by omega)]
      exact stoodL_at F l n j st (by omega) (fun k hk => h k (by omega)) hs
/-- An encoder's states behind the first calls do not hang on those behind them. -/
theorem sts_pre (F : Nat → List UInt8) (l m : List PutD) : sts F (l ++ m) l.length = runs F St0 l := by
  rw [sts_runs F (l ++ m) l.length (by simp), List.take_left]
theorem sts_all (F : Nat → List UInt8) (l : List PutD) : sts F l l.length = runs F St0 l := by
  rw [sts_runs F l l.length (Nat.le_refl _), List.take_length]

theorem take_snoc (l : List LnD) (k : Nat) (e : LnD) (h : l[k]? = some e) : l.take (k + 1) = l.take k ++ [e] := by rw [List.take_add_one, h]; rfl
theorem wantT_snoc (lax : Bool) (mul : Int) (l : List LnD) (k : Nat) (e : LnD) (h : l[k]? = some e) : wantT lax mul (l.take (k + 1)) = wantT lax mul (l.take k) ++ (aloneSt lax mul e).buf := by
  rw [take_snoc l k e h]; simp [wantT]
theorem firstT_snoc (lax : Bool) (mul : Int) (l : List LnD) (k : Nat) (e : LnD) (h : l[k]? = some e) : firstT' lax mul (l.take (k + 1)) = (firstT' lax mul (l.take k) || (aloneSt lax mul e).err != 0) := by
  rw [take_snoc l k e h]; simp [firstT']
theorem lnAll_snoc (l : List LnD) (k : Nat) (e : LnD) (h : l[k]? = some e) : lnAll (l.take (k + 1)) = lnAll (l.take k) ++ lnPuts e := by
  rw [take_snoc l k e h]; simp [lnAll]

/-- The whole of FnEncodeEach, of the states. -/
theorem alone_sts (lax : Bool) (q : Int) (h0 : 0 ≤ q) (h1 : q ≤ 3) (e : LnD) (hg : LnGood e) : runs fTx St0 (beginP lax q ++ lnPuts e) = some (aloneSt lax (ticks q.toNat) e) := by
  rw [begin_runs _ _ _ h0 h1, alone_runs _ _ _ hg]
theorem all_sts (lax : Bool) (q : Int) (h0 : 0 ≤ q) (h1 : q ≤ 3) (l : List LnD) (hg : ∀ e, e ∈ l → LnGood e) : ∃ c, runs fTx St0 (beginP lax q ++ lnAll l) = some c ∧ c.buf = wantT lax (ticks q.toNat) l ∧ (c.err != 0) = firstT' lax (ticks q.toNat) l := by
  obtain ⟨c, E1, k1, k2, k3⟩ := each_total lax (ticks q.toNat) l hg 0 [] _ (bnd_B lax (ticks q.toNat))
  refine ⟨c, by rw [begin_runs _ _ _ h0 h1]; exact k1, by rw [k2.buf]; rfl, ?_⟩
  have he := k2.err
  subst he
  rw [Bool.eq_iff_iff, bne_iff_ne, k3]
  simp

/-- The encoder with the lax flag alone. -/
theorem lax_runs (F : Nat → List UInt8) (lax : Bool) (r : List PutD) : runs F St0 (laxP lax :: r) = runs F (stB lax 0) r := by
  have e1 : (laxP lax).step F St0 = some (stB lax 0) := by unfold PutD.step laxP; simp [stB, St0]
  simp only [runs]
  rw [e1]
  rfl
def clearP : PutD := ⟨4, ⟨#[]⟩, ⟨#[]⟩, VD0, 0, 0, false⟩
def lnClear (e : LnD) : List PutD := lnPuts e ++ [clearP]
def lnAllC (l : List LnD) : List PutD := l.flatMap lnClear
theorem lnAllC_snoc (l : List LnD) (k : Nat) (e : LnD) (h : l[k]? = some e) : lnAllC (l.take (k + 1)) = lnAllC (l.take k) ++ lnPuts e ++ [clearP] := by
  rw [take_snoc l k e h]; simp [lnAllC, lnClear]
theorem clear_step (F : Nat → List UInt8) (st : St) : clearP.step F st = some { st with err := 0 } := by unfold PutD.step clearP; simp
theorem clear_line {lax : Bool} {mul : Int} {B : List UInt8} {c : St} (h : Bnd lax mul 0 B c) (e : LnD) (hg : LnGood e) :
    ∃ c1, runs fTx c (lnPuts e) = some c1 ∧ (c1.err != 0) = ((aloneSt lax mul e).err != 0) ∧ Bnd lax mul 0 (B ++ (aloneSt lax mul e).buf) { c1 with err := 0 } := by
  obtain ⟨a', c', E1, h1, h2, h3, h4⟩ := each_line fTx (bnd_B lax mul) h e hg
  have ha : a' = aloneSt lax mul e := by
    have := alone_runs lax mul e hg
    rw [h1] at this
    exact Option.some.inj this
  subst ha
  refine ⟨c', h2, ?_, ⟨h3.buf, h3.sec, rfl, h3.lax, h3.mul⟩⟩
  rw [Bool.eq_iff_iff, bne_iff_ne, bne_iff_ne, h3.err, h4]
  simp
theorem clear_total (lax : Bool) (mul : Int) : ∀ (l : List LnD), (∀ e, e ∈ l → LnGood e) → ∀ (B : List UInt8) (c : St), Bnd lax mul 0 B c → ∃ c', runs fTx c (lnAllC l) = some c' ∧ Bnd lax mul 0 (B ++ wantT lax mul l) c'
  | [], _, B, c, h => ⟨c, rfl, by simpa [wantT] using h⟩
  | e :: l, hg, B, c, h => by
    obtain ⟨c1, h1, _, h3⟩ := clear_line h e (hg e (by simp))
    obtain ⟨c2, k1, k2⟩ := clear_total lax mul l (fun x hx => hg x (by simp [hx])) _ _ h3
    refine ⟨c2, ?_, ?_⟩
    · have : lnAllC (e :: l) = lnPuts e ++ ([clearP] ++ lnAllC l) := by simp [lnAllC, lnClear]
      rw [this, runs_append, h1]
      simp only [Option.bind_some]
      rw [runs_append]
      simp only [runs, clear_step, Option.bind_some]
      exact k1
    · have e1 : B ++ wantT lax mul (e :: l) = B ++ (aloneSt lax mul e).buf ++ wantT lax mul l := by simp [wantT]
      rw [e1]; exact k2
/-- The whole of FnEncodeClear, of the states. -/
theorem clear_at (lax : Bool) (l : List LnD) (hg : ∀ e, e ∈ l → LnGood e) (k : Nat) (e : LnD) (he : l[k]? = some e) :
    ∃ c1, runs fTx St0 (laxP lax :: lnAllC (l.take k) ++ lnPuts e) = some c1 ∧ (c1.err != 0) = ((aloneSt lax 0 e).err != 0) ∧ runs fTx St0 (laxP lax :: lnAllC (l.take k) ++ lnPuts e ++ [clearP]) = some { c1 with err := 0 } := by
  obtain ⟨c, h1, h2⟩ := clear_total lax 0 (l.take k) (fun x hx => hg x (List.mem_of_mem_take hx)) [] _ (bnd_B lax 0)
  obtain ⟨c1, h3, h4, _⟩ := clear_line h2 e (hg e (List.mem_of_getElem? he))
  have e1 : runs fTx St0 (laxP lax :: lnAllC (l.take k) ++ lnPuts e) = some c1 := by
    rw [List.cons_append, lax_runs, runs_append, h1]
    exact h3
  refine ⟨c1, e1, h4, ?_⟩
  rw [runs_append, e1]
  simp only [Option.bind_some, runs, clear_step]
theorem clear_all (lax : Bool) (l : List LnD) (hg : ∀ e, e ∈ l → LnGood e) : ∃ c, runs fTx St0 (laxP lax :: lnAllC l) = some c ∧ c.buf = wantT lax 0 l := by
  obtain ⟨c, h1, h2⟩ := clear_total lax 0 l hg [] _ (bnd_B lax 0)
  exact ⟨c, by rw [lax_runs]; exact h1, by rw [h2.buf]; rfl⟩
theorem plain_all (lax : Bool) (l : List LnD) (hg : ∀ e, e ∈ l → LnGood e) : ∃ c, runs fTx St0 (laxP lax :: lnAll l) = some c ∧ c.buf = wantT lax 0 l ∧ (c.err != 0) = firstT' lax 0 l := by
  obtain ⟨c, E1, k1, k2, k3⟩ := each_total lax 0 l hg 0 [] _ (bnd_B lax 0)
  refine ⟨c, by rw [lax_runs]; exact k1, by rw [k2.buf]; rfl, ?_⟩
  have he := k2.err
  subst he
  rw [Bool.eq_iff_iff, bne_iff_ne, k3]
  simp
theorem plain_one (lax : Bool) (e : LnD) (hg : LnGood e) : runs fTx St0 (laxP lax :: lnPuts e) = some (aloneSt lax 0 e) := by rw [lax_runs, alone_runs _ _ _ hg]

/-- An encoder that was handed a buffer. -/
def bufP (b : ByteArray) : PutD := ⟨8, b, ⟨#[]⟩, VD0, 0, 0, false⟩
theorem buf_runs (F : Nat → List UInt8) (b : ByteArray) (lax : Bool) (r : List PutD) : runs F St0 (bufP b :: laxP lax :: r) = runs F { stB lax 0 with buf := b.data.toList } r := by
  have e1 : (bufP b).step F St0 = some { St0 with buf := b.data.toList } := by unfold PutD.step bufP; simp [St0]
  have e2 : (laxP lax).step F { St0 with buf := b.data.toList } = some { stB lax 0 with buf := b.data.toList } := by unfold PutD.step laxP; simp [stB, St0]
  simp only [runs]
  rw [e1]
  simp only [Option.bind_some]
  rw [e2]
  rfl
theorem line_buf (lax : Bool) (B m : List UInt8) : ({ stB lax 0 with buf := B } : St).line m = ({ stB lax 0 with buf := B, sec := 5 } : St).line m := by
  unfold St.line stB St0
  simp
theorem buf_all (b : ByteArray) (lax : Bool) (l : List LnD) (hg : ∀ e, e ∈ l → LnGood e) : ∃ c, runs fTx St0 (bufP b :: laxP lax :: lnAll l) = some c ∧ c.buf = b.data.toList ++ wantT lax 0 l ∧ (c.err != 0) = firstT' lax 0 l := by
  rw [buf_runs]
  by_cases hB : b.data.toList = []
  · rw [hB]
    have := plain_all lax l hg
    rw [lax_runs] at this
    exact this
  · have hb : Bnd lax 0 0 b.data.toList { stB lax 0 with buf := b.data.toList, sec := 5 } := ⟨rfl, by rw [if_neg hB], rfl, rfl, rfl⟩
    obtain ⟨c, E1, k1, k2, k3⟩ := each_total lax 0 l hg 0 _ _ hb
    cases l with
    | nil => exact ⟨_, rfl, by simp [wantT], rfl⟩
    | cons e r =>
      refine ⟨c, ?_, k2.buf, ?_⟩
      · rw [← k1]
        have e1 : (e :: r).flatMap lnPuts = lnHead e :: ((lnPuts e).tail ++ r.flatMap lnPuts) := by simp [lnPuts, lnFields, lnTags]
        unfold lnAll
        rw [e1]
        simp only [runs, step_head, Option.bind_some, line_buf lax _ _]
      · have he := k2.err
        subst he
        rw [Bool.eq_iff_iff, bne_iff_ne, k3]
        simp
end Go.Proofs.YtaaogjhaokaggaaGreatDoor
namespace Go.Proofs.YtaaogjhaokaggaaGreatDoor
open Go.RowKit

/-- laws.lGood, but for the #. -/
def tagsOk : List UInt8 → List (ByteArray × ByteArray) → Bool
  | _, [] => true
  | ah, p :: r => keyOk p.1.data.toList && keyOk p.2.data.toList && !keyLe p.1.data.toList ah && tagsOk p.1.data.toList r
structure LnKeys (e : LnD) : Prop where
  name : keyOk e.name.data.toList = true
  tags : tagsOk [] e.tags = true
  fields : ∀ p, p ∈ e.fields → keyOk p.1.data.toList = true
/-- The strict encoder and the lax one, within a line. -/
structure Twin (ph : Nat) (ah : List UInt8) (a c : St) : Prop where
  buf : c.buf = a.buf
  sa : a.sec = ph
  sc : c.sec = ph
  ba : a.bad = false
  bc : c.bad = false
  ea : a.err = 0
  ec : c.err = 0
  la : a.lax = false
  lc : c.lax = true
  mul : c.mul = a.mul
  key : a.key = ah
/-- Between lines. -/
structure Two (a c : St) : Prop where
  buf : c.buf = a.buf
  sa : a.sec = 0 ∨ a.sec = 5
  sc : c.sec = a.sec
  ea : a.err = 0
  ec : c.err = 0
  la : a.lax = false
  lc : c.lax = true
  mul : c.mul = a.mul
theorem two_line {a c : St} (h : Two a c) (m : List UInt8) (hm : keyOk m = true) : Twin 1 [] (a.line m) (c.line m) := by
  obtain ⟨ab, ak, at', asec, al, abad, ae, am⟩ := a
  obtain ⟨cb, ck, ct, csec, cl, cbad, ce, cm⟩ := c
  obtain ⟨h1, h2, h3, h4, h5, h6, h7, h8⟩ := h
  simp only at *
  subst h1 h3 h4 h5 h6 h7 h8
  have n1 : ¬ csec = 1 := by omega
  unfold St.line
  simp only [n1, if_false, hm]
  simp only [Bool.true_eq_false, and_false, if_false]
  exact ⟨rfl, rfl, rfl, rfl, rfl, rfl, rfl, rfl, rfl, rfl, rfl⟩
theorem twin_tag {a c : St} {ah : List UInt8} (h : Twin 1 ah a c) (k v : List UInt8) (hk : keyOk k = true) (hv : keyOk v = true) (hl : keyLe k ah = false) : Twin 1 k (a.tag k v) (c.tag k v) := by
  obtain ⟨h1, h2, h3, h4, h5, h6, h7, h8, h9, h10, h11⟩ := h
  have ea : a.tag k v = { a with key := k, buf := a.buf ++ ([44] ++ esc (tOf sK) k ++ [61] ++ esc (tOf sV) v) } := by
    unfold St.tag
    rw [if_neg (by rw [h2]; decide), if_neg (by rw [hk, hv, h11, hl]; simp)]
    simp only [if_pos h8]
    rw [if_neg (by rw [h4]; decide)]
  have ec : c.tag k v = { c with buf := c.buf ++ ([44] ++ esc (tOf sK) k ++ [61] ++ esc (tOf sV) v) } := by
    have hl9 : ¬ c.lax = false := by rw [h9]; decide
    unfold St.tag
    rw [if_neg (by rw [h3]; decide), if_neg (fun hh => hl9 hh.1)]
    simp only [if_neg hl9]
    rw [if_neg (by rw [h5]; decide)]
  rw [ea, ec]
  exact ⟨by simp [h1], h2, h3, h4, h5, h6, h7, h8, h9, h10, rfl⟩
theorem twin_field (F : Nat → List UInt8) {a c : St} {ph : Nat} {ah : List UInt8} (hph : ph = 1 ∨ ph = 2) (h : Twin ph ah a c) (k : List UInt8) (x : Val) (hk : keyOk k = true) : Twin 2 ah (a.field F k x) (c.field F k x) := by
  obtain ⟨h1, h2, h3, h4, h5, h6, h7, h8, h9, h10, h11⟩ := h
  have ea : a.field F k x = { a with sec := 2, buf := a.buf ++ ([if a.sec = 1 then 32 else 44] ++ esc (tOf sK) k ++ [61] ++ valText F x) } := by
    unfold St.field
    rw [if_neg (by rw [h2]; omega), if_neg (by rw [hk]; simp), if_neg (by rw [h4]; decide)]
  have ec : c.field F k x = { c with sec := 2, buf := c.buf ++ ([if c.sec = 1 then 32 else 44] ++ esc (tOf sK) k ++ [61] ++ valText F x) } := by
    unfold St.field
    rw [if_neg (by rw [h3]; omega), if_neg (by rw [h9]; simp), if_neg (by rw [h5]; decide)]
  rw [ea, ec]
  exact ⟨by simp only [h1, h2, h3], rfl, rfl, h4, h5, h6, h7, h8, h9, h10, h11⟩
theorem twin_endl {a c : St} {ah : List UInt8} (h : Twin 2 ah a c) (t : Option Int) (ht : ∀ n, t = some n → -9223372036854775808 ≤ n ∧ n ≤ 9223372036854775807) : Two (a.endl t) (c.endl t) := by
  obtain ⟨h1, h2, h3, h4, h5, h6, h7, h8, h9, h10, h11⟩ := h
  cases t with
  | none =>
    have ea : a.endl none = { a with sec := 5, buf := a.buf ++ [10] } := by simp [St.endl, h2, h4]
    have ec : c.endl none = { c with sec := 5, buf := c.buf ++ [10] } := by simp [St.endl, h3, h5]
    rw [ea, ec]
    exact ⟨by simp [h1], .inr rfl, rfl, h6, h7, h8, h9, h10⟩
  | some n =>
    have hn := ht n rfl
    have hr : ¬ (n < -9223372036854775808 ∨ n > 9223372036854775807) := by omega
    have ea : a.endl (some n) = { a with sec := 5, buf := a.buf ++ ([32] ++ Lib.itoa (if a.mul > 0 then n.tdiv a.mul else n) ++ [10]) } := by simp [St.endl, h2, h4, hr]
    have ec : c.endl (some n) = { c with sec := 5, buf := c.buf ++ ([32] ++ Lib.itoa (if c.mul > 0 then n.tdiv c.mul else n) ++ [10]) } := by simp [St.endl, h3, h5, hr]
    rw [ea, ec]
    exact ⟨by simp only [h1, h10], .inr rfl, rfl, h6, h7, h8, h9, h10⟩
theorem twin_tags (F : Nat → List UInt8) (e : LnD) : ∀ (ts : List (ByteArray × ByteArray)) (ah : List UInt8) (a c : St), tagsOk ah ts = true → Twin 1 ah a c → ∃ a' c' ah', runs F a (ts.map (lnTag (lnMore e))) = some a' ∧ runs F c (ts.map (lnTag (lnMore e))) = some c' ∧ Twin 1 ah' a' c'
  | [], ah, a, c, _, h => ⟨a, c, ah, rfl, rfl, h⟩
  | p :: ts, ah, a, c, hk, h => by
    unfold tagsOk at hk
    simp only [Bool.and_eq_true, Bool.not_eq_true'] at hk
    obtain ⟨⟨⟨k1, k2⟩, k3⟩, k4⟩ := hk
    obtain ⟨a', c', ah', h1, h2, h3⟩ := twin_tags F e ts _ _ _ k4 (twin_tag h p.1.data.toList p.2.data.toList k1 k2 k3)
    refine ⟨a', c', ah', ?_, ?_, h3⟩
    · simp only [List.map_cons, runs, step_tag, Option.bind_some]; exact h1
    · simp only [List.map_cons, runs, step_tag, Option.bind_some]; exact h2
theorem twin_fields (F : Nat → List UInt8) (e : LnD) : ∀ (fs : List ((ByteArray × ByteArray) × VD)) (ph : Nat) (_ : ph = 1 ∨ ph = 2) (ah : List UInt8) (a c : St), (∀ p, p ∈ fs → p.2.can = true ∧ keyOk p.1.1.data.toList = true) → Twin ph ah a c →
    ∃ a' c', runs F a (fs.map (lnField (lnMore e))) = some a' ∧ runs F c (fs.map (lnField (lnMore e))) = some c' ∧ Twin (if fs = [] then ph else 2) ah a' c'
  | [], ph, _, ah, a, c, _, h => ⟨a, c, rfl, rfl, by simpa using h⟩
  | p :: fs, ph, hph, ah, a, c, hc, h => by
    obtain ⟨x, hx, _⟩ := can_made p.2 (hc p (by simp)).1
    have h2 := twin_field F hph h p.1.1.data.toList x (hc p (by simp)).2
    obtain ⟨a', c', k1, k2, k3⟩ := twin_fields F e fs 2 (.inr rfl) ah _ _ (fun q hq => hc q (by simp [hq])) h2
    refine ⟨a', c', ?_, ?_, ?_⟩
    · simp only [List.map_cons, runs, step_field _ e p x hx, Option.bind_some]; exact k1
    · simp only [List.map_cons, runs, step_field _ e p x hx, Option.bind_some]; exact k2
    · rw [if_neg (by simp)]
      by_cases hf : fs = []
      · rw [if_pos hf] at k3; exact k3
      · rw [if_neg hf] at k3; exact k3
theorem two_puts (F : Nat → List UInt8) {a c : St} (h : Two a c) (e : LnD) (hg : LnGood e) (ho : LnOk e) (hk : LnKeys e) : ∃ a' c', runs F a (lnPuts e) = some a' ∧ runs F c (lnPuts e) = some c' ∧ Two a' c' := by
  have h0 := two_line h e.name.data.toList hk.name
  obtain ⟨a1, c1, ah, h1, h2, h3⟩ := twin_tags F e e.tags _ _ _ hk.tags h0
  have hne : e.fields.zip e.values ≠ [] := by
    intro h
    have := congrArg List.length h
    simp only [List.length_zip, List.length_nil, hg.vals] at this
    have := hg.one
    omega
  obtain ⟨a2, c2, k1, k2, k3⟩ := twin_fields F e (e.fields.zip e.values) 1 (.inl rfl) ah a1 c1 (fun p hp => ⟨hg.can p.2 (List.of_mem_zip hp).2, hk.fields p.1 (List.of_mem_zip hp).1⟩) h3
  rw [if_neg hne] at k3
  have n0 := ho.n0
  have n1 := ho.n1
  have hz := twin_endl k3 (if e.non then none else some (e.n + 0)) (fun n hn => by
    split at hn
    · cases hn
    · cases hn; omega)
  have hz1 : (e.fields.zip e.values).take e.fields.length = e.fields.zip e.values := List.take_of_length_le (by simp only [List.length_zip]; omega)
  have hz2 : e.tags.take e.tags.length = e.tags := List.take_of_length_le (Nat.le_refl _)
  refine ⟨_, _, ?_, ?_, hz⟩
  all_goals
    unfold lnPuts lnFields lnTags
    rw [hz1, hz2, List.cons_append, List.cons_append]
    simp only [runs, step_head, Option.bind_some]
    rw [List.append_assoc, runs_append]
  · rw [h1]
    simp only [Option.bind_some]
    rw [runs_append, k1]
    simp only [Option.bind_some, runs, step_end]
  · rw [h2]
    simp only [Option.bind_some]
    rw [runs_append, k2]
    simp only [Option.bind_some, runs, step_end]
theorem two_all (F : Nat → List UInt8) : ∀ (l : List LnD), (∀ e, e ∈ l → LnGood e ∧ LnOk e ∧ LnKeys e) → ∀ (a c : St), Two a c → ∃ a' c', runs F a (lnAll l) = some a' ∧ runs F c (lnAll l) = some c' ∧ Two a' c'
  | [], _, a, c, h => ⟨a, c, rfl, rfl, h⟩
  | e :: l, hg, a, c, h => by
    obtain ⟨h1, h2, h3⟩ := hg e (by simp)
    obtain ⟨a1, c1, k1, k2, k3⟩ := two_puts F h e h1 h2 h3
    obtain ⟨a2, c2, j1, j2, j3⟩ := two_all F l (fun x hx => hg x (by simp [hx])) a1 c1 k3
    have e1 : lnAll (e :: l) = lnPuts e ++ lnAll l := by simp [lnAll]
    refine ⟨a2, c2, ?_, ?_, j3⟩
    · rw [e1, runs_append, k1]; exact j1
    · rw [e1, runs_append, k2]; exact j2
/-- THE PLAIN LAW OF FnEncodeLax. -/
theorem lax_law (l : List LnD) (h : ∀ e, e ∈ l → LnGood e ∧ LnOk e ∧ LnKeys e) : ∃ a c, runs fTx St0 (laxP false :: lnAll l) = some a ∧ runs fTx St0 (laxP true :: lnAll l) = some c ∧ c.buf = a.buf ∧ a.err = 0 ∧ c.err = 0 := by
  have h0 : Two (stB false 0) (stB true 0) := ⟨rfl, .inl rfl, rfl, rfl, rfl, rfl, rfl, rfl⟩
  obtain ⟨a, c, h1, h2, h3⟩ := two_all fTx l h _ _ h0
  exact ⟨a, c, by rw [lax_runs]; exact h1, by rw [lax_runs]; exact h2, h3.buf, h3.ea, h3.ec⟩
end Go.Proofs.YtaaogjhaokaggaaGreatDoor
namespace Go.Proofs.YtaaogjhaokaggaaGreatDoor
open Go.RowKit

/-- The text of a line with one tag and one field. -/
noncomputable def lineText (name key value field : List UInt8) (x : Val) (n mul : Int) : List UInt8 :=
  esc (tOf sM) name ++ ([44] ++ esc (tOf sK) key ++ [61] ++ esc (tOf sV) value) ++ ([32] ++ esc (tOf sK) field ++ [61] ++ valText fTx x) ++ ([32] ++ Lib.itoa (n.tdiv mul) ++ [10])
def textPuts (name key value field : ByteArray) (d : VD) (n : Int) (q : Int) : List PutD :=
  [precP q, ⟨0, name, ⟨#[]⟩, VD0, 0, 0, false⟩, ⟨1, key, value, VD0, 0, 0, false⟩, ⟨2, field, ⟨#[]⟩, d, 0, 0, false⟩, ⟨3, ⟨#[]⟩, ⟨#[]⟩, VD0, n, 0, false⟩]
theorem keyLe_nil (k : List UInt8) (h : keyOk k = true) : keyLe k [] = false := by
  cases k with
  | nil => simp [keyOk] at h
  | cons c r =>
    unfold keyLe
    have h1 : Op.bytesLess (c :: r) [] = false := by simp [Op.bytesLess]
    rw [h1]
    rfl
theorem ticks_pos (p : Nat) : ticks p > 0 := by
  unfold ticks
  repeat' split
  all_goals decide
theorem text_law (name key value field : ByteArray) (d : VD) (x : Val) (hx : d.made = some x) (n : Int) (q : Int) (q0 : 0 ≤ q) (q1 : q ≤ 3) (n0 : -9223372036854775808 ≤ n) (n1 : n ≤ 9223372036854775807)
    (h1 : keyOk name.data.toList = true) (h2 : keyOk key.data.toList = true) (h3 : keyOk value.data.toList = true) (h4 : keyOk field.data.toList = true) :
    ∃ st, runs fTx St0 (textPuts name key value field d n q) = some st ∧ st.err = 0 ∧ st.buf = lineText name.data.toList key.data.toList value.data.toList field.data.toList x n (ticks q.toNat) := by
  have hm := ticks_pos q.toNat
  have e0 : (precP q).step fTx St0 = some (stB false (ticks q.toNat)) := by
    unfold PutD.step precP
    simp only []
    simp (decide := true) only [if_true, if_false]
    rw [if_pos ⟨q0, q1⟩]
    rfl
  have e1 : (⟨0, name, ⟨#[]⟩, VD0, 0, 0, false⟩ : PutD).step fTx (stB false (ticks q.toNat)) = some ⟨esc (tOf sM) name.data.toList, [], 0, 1, false, false, 0, ticks q.toNat⟩ := by
    unfold PutD.step
    simp only []
    simp (decide := true) only [if_true, if_false]
    unfold St.line stB St0
    simp [h1]
  have e2 : (⟨1, key, value, VD0, 0, 0, false⟩ : PutD).step fTx ⟨esc (tOf sM) name.data.toList, [], 0, 1, false, false, 0, ticks q.toNat⟩ = some ⟨esc (tOf sM) name.data.toList ++ ([44] ++ esc (tOf sK) key.data.toList ++ [61] ++ esc (tOf sV) value.data.toList), key.data.toList, 0, 1, false, false, 0, ticks q.toNat⟩ := by
    unfold PutD.step
    simp only []
    simp (decide := true) only [if_true, if_false]
    unfold St.tag
    simp [h2, h3, keyLe_nil _ h2]
  have e3 : (⟨2, field, ⟨#[]⟩, d, 0, 0, false⟩ : PutD).step fTx ⟨esc (tOf sM) name.data.toList ++ ([44] ++ esc (tOf sK) key.data.toList ++ [61] ++ esc (tOf sV) value.data.toList), key.data.toList, 0, 1, false, false, 0, ticks q.toNat⟩ = some ⟨esc (tOf sM) name.data.toList ++ ([44] ++ esc (tOf sK) key.data.toList ++ [61] ++ esc (tOf sV) value.data.toList) ++ ([32] ++ esc (tOf sK) field.data.toList ++ [61] ++ valText fTx x), key.data.toList, 0, 2, false, false, 0, ticks q.toNat⟩ := by
    unfold PutD.step
    simp only []
    simp (decide := true) only [if_true, if_false]
    rw [hx]
    simp only [Option.map_some]
    unfold St.field
    simp [h4]
  have hr : ¬ (n < -9223372036854775808 ∨ n > 9223372036854775807) := by omega
  have e4 : ∀ b k, (⟨3, ⟨#[]⟩, ⟨#[]⟩, VD0, n, 0, false⟩ : PutD).step fTx ⟨b, k, 0, 2, false, false, 0, ticks q.toNat⟩ = some ⟨b ++ ([32] ++ Lib.itoa (n.tdiv (ticks q.toNat)) ++ [10]), k, 0, 5, false, false, 0, ticks q.toNat⟩ := by
    intro b k
    unfold PutD.step
    simp only []
    simp (decide := true) only [if_true, if_false, Int.add_zero]
    unfold St.endl
    simp [hr, hm]
  refine ⟨⟨esc (tOf sM) name.data.toList ++ ([44] ++ esc (tOf sK) key.data.toList ++ [61] ++ esc (tOf sV) value.data.toList) ++ ([32] ++ esc (tOf sK) field.data.toList ++ [61] ++ valText fTx x) ++ ([32] ++ Lib.itoa (n.tdiv (ticks q.toNat)) ++ [10]), key.data.toList, 0, 5, false, false, 0, ticks q.toNat⟩, ?_, rfl, rfl⟩
  simp only [textPuts, runs, e0, e1, e2, e3, e4, Option.bind_some]
end Go.Proofs.YtaaogjhaokaggaaGreatDoor
