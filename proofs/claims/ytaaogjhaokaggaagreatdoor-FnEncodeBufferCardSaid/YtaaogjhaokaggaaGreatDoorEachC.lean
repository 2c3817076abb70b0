import Derived.Test.YtaaogjhaokaggaaGreatDoorEachR
namespace Go.Proofs.YtaaogjhaokaggaaGreatDoor
open Go.RowKit

/-- Where the parts of what stood behind a call lie. -/
theorem stoodL_len (F : Nat → List UInt8) (l : List PutD) : ∀ n, (∀ k, k ≤ n → ∃ st, sts F l k = some st) → (stoodL F l n).length = 3 * n
  | 0, _ => rfl
  | n + 1, h => by
    obtain ⟨st, hs⟩ := h (n + 1) (Nat.le_refl _)
    have h1 := stoodL_len F l n (fun k hk => h k (by omega))
    have e : stoodL F l (n + 1) = stoodL F l n ++ stood st := by simp only [stoodL, hs]
    rw [e, List.length_append, h1]
    simp only [stood, List.length_cons, List.length_nil]
    omega
theorem stoodL_at (F : Nat → List UInt8) (l : List PutD) : ∀ n j st, j < n → (∀ k, k ≤ n → ∃ st, sts F l k = some st) → sts F l (j + 1) = some st →
    (stoodL F l n)[j * 3]? = some (.bool (st.err != 0)) ∧ (stoodL F l n)[j * 3 + 1]? = some (.bool (st.err == 2)) ∧ (stoodL F l n)[j * 3 + 2]? = some (.int .i64 st.buf.length)
  | 0, _, _, hj, _, _ => absurd hj (Nat.not_lt_zero _)
  | n + 1, j, st, hj, h, hs => by
    have hl := stoodL_len F l n (fun k hk => h k (by omega))
    obtain ⟨st2, hs2⟩ := h (n + 1) (Nat.le_refl _)
    have e : stoodL F l (n + 1) = stoodL F l n ++ stood st2 := by simp only [stoodL, hs2]
    rw [e]
    by_cases hjn : j = n
    · subst hjn
      rw [hs] at hs2
      cases hs2
      rw [List.getElem?_append_right (by omega), List.getElem?_append_right (by omega), List.getElem?_append_right (by omega), hl, show j * 3 - 3 * j = 0 by omega, show j * 3 + 1 - 3 * j = 1 by omega, show j * 3 + 2 - 3 * j = 2 by omega]
      exact ⟨rfl, rfl, rfl⟩
    · rw [List.getElem?_append_left (by omega), List.getElem?_append_left (by omega), List.getElem?_append_left (by omega)]
      exact stoodL_at F l n j st (by omega) (fun k hk => h k (by omega)) hs
/-- An encoder's states behind the first calls do not hang on those behind them. -/
theorem sts_pre (F : Nat → List UInt8) (l m : List PutD) : sts F (l ++ m) l.length = runs F St0 l := by
  rw [sts_runs F (l ++ m) l.length (by simp), List.take_left]
theorem sts_all (F : Nat → List UInt8) (l : List PutD) : sts F l l.length = runs F St0 l := by
  rw [sts_runs F l l.length (Nat.le_refl _), List.take_length]

theorem take_snoc (l : List LnD) (k : Nat) (e : LnD) (h : l[k]? = some e) : l.take (k + 1) = l.take k ++ [e] := by rw [List.take_add_one, h]; rfl
theorem wantT_snoc (lax : Bool) (mul : Int) (l : List LnD) (k : Nat) (e : LnD) (h : l[k]? = some e) : wantT lax mul (l.take (k + 1)) = wantT lax mul (l.take k) ++ (aloneSt lax mul e).buf := by
  rw [take_snoc l k e h]; simp [wantT]
theorem firstT_snoc (lax : Bool) (mul : Int) (l : List LnD) (k : Nat) (e : LnD) (h : l[k]? = some e) : firstT' lax mul (l.take (k + 1)) = (firstT' lax mul (l.take k) || (aloneSt lax mul e).err != 0) := by
  rw [take_snoc l k e h]; simp [firstT']
theorem lnAll_snoc (l : List LnD) (k : Nat) (e : LnD) (h : l[k]? = some e) : lnAll (l.take (k + 1)) = lnAll (l.take k) ++ lnPuts e := by
  rw [take_snoc l k e h]; simp [lnAll]

/-- The whole of FnEncodeEach, of the states. -/
theorem alone_sts (lax : Bool) (q : Int) (h0 : 0 ≤ q) (h1 : q ≤ 3) (e : LnD) (hg : LnGood e) : runs fTx St0 (beginP lax q ++ lnPuts e) = some (aloneSt lax (ticks q.toNat) e) := by
  rw [begin_runs _ _ _ h0 h1, alone_runs _ _ _ hg]
theorem all_sts (lax : Bool) (q : Int) (h0 : 0 ≤ q) (h1 : q ≤ 3) (l : List LnD) (hg : ∀ e, e ∈ l → LnGood e) : ∃ c, runs fTx St0 (beginP lax q ++ lnAll l) = some c ∧ c.buf = wantT lax (ticks q.toNat) l ∧ (c.err != 0) = firstT' lax (ticks q.toNat) l := by
  obtain ⟨c, E1, k1, k2, k3⟩ := each_total lax (ticks q.toNat) l hg 0 [] _ (bnd_B lax (ticks q.toNat))
  refine ⟨c, by rw [begin_runs _ _ _ h0 h1]; exact k1, by rw [k2.buf]; rfl, ?_⟩
  have he := k2.err
  subst he
  rw [Bool.eq_iff_iff, bne_iff_ne, k3]
  simp

/-- The encoder with the lax flag alone. -/
theorem lax_runs (F : Nat → List UInt8) (lax : Bool) (r : List PutD) : runs F St0 (laxP lax :: r) = runs F (stB lax 0) r := by
  have e1 : (laxP lax).step F St0 = some (stB lax 0) := by unfold PutD.step laxP; simp [stB, St0]
  simp only [runs]
  rw [e1]
  rfl
def clearP : PutD := ⟨4, ⟨#[]⟩, ⟨#[]⟩, VD0, 0, 0, false⟩
def lnClear (e : LnD) : List PutD := lnPuts e ++ [clearP]
def lnAllC (l : List LnD) : List PutD := l.flatMap lnClear
theorem lnAllC_snoc (l : List LnD) (k : Nat) (e : LnD) (h : l[k]? = some e) : lnAllC (l.take (k + 1)) = lnAllC (l.take k) ++ lnPuts e ++ [clearP] := by
  rw [take_snoc l k e h]; simp [lnAllC, lnClear]
theorem clear_step (F : Nat → List UInt8) (st : St) : clearP.step F st = some { st with err := 0 } := by unfold PutD.step clearP; simp
theorem clear_line {lax : Bool} {mul : Int} {B : List UInt8} {c : St} (h : Bnd lax mul 0 B c) (e : LnD) (hg : LnGood e) :
    ∃ c1, runs fTx c (lnPuts e) = some c1 ∧ (c1.err != 0) = ((aloneSt lax mul e).err != 0) ∧ Bnd lax mul 0 (B ++ (aloneSt lax mul e).buf) { c1 with err := 0 } := by
  obtain ⟨a', c', E1, h1, h2, h3, h4⟩ := each_line fTx (bnd_B lax mul) h e hg
  have ha : a' = aloneSt lax mul e := by
    have := alone_runs lax mul e hg
    rw [h1] at this
    exact Option.some.inj this
  subst ha
  refine ⟨c', h2, ?_, ⟨h3.buf, h3.sec, rfl, h3.lax, h3.mul⟩⟩
  rw [Bool.eq_iff_iff, bne_iff_ne, bne_iff_ne, h3.err, h4]
  simp
theorem clear_total (lax : Bool) (mul : Int) : ∀ (l : List LnD), (∀ e, e ∈ l → LnGood e) → ∀ (B : List UInt8) (c : St), Bnd lax mul 0 B c → ∃ c', runs fTx c (lnAllC l) = some c' ∧ Bnd lax mul 0 (B ++ wantT lax mul l) c'
  | [], _, B, c, h => ⟨c, rfl, by simpa [wantT] using h⟩
  | e :: l, hg, B, c, h => by
    obtain ⟨c1, h1, _, h3⟩ := clear_line h e (hg e (by simp))
    obtain ⟨c2, k1, k2⟩ := clear_total lax mul l (fun x hx => hg x (by simp [hx])) _ _ h3
    refine ⟨c2, ?_, ?_⟩
    · have : lnAllC (e :: l) = lnPuts e ++ ([clearP] ++ lnAllC l) := by simp [lnAllC, lnClear]
      rw [this, runs_append, h1]
      simp only [Option.bind_some]
      rw [runs_append]
      simp only [runs, clear_step, Option.bind_some]
      exact k1
    · have e1 : B ++ wantT lax mul (e :: l) = B ++ (aloneSt lax mul e).buf ++ wantT lax mul l := by simp [wantT]
      rw [e1]; exact k2
/-- The whole of FnEncodeClear, of the states. -/
theorem clear_at (lax : Bool) (l : List LnD) (hg : ∀ e, e ∈ l → LnGood e) (k : Nat) (e : LnD) (he : l[k]? = some e) :
    ∃ c1, runs fTx St0 (laxP lax :: lnAllC (l.take k) ++ lnPuts e) = some c1 ∧ (c1.err != 0) = ((aloneSt lax 0 e).err != 0) ∧ runs fTx St0 (laxP lax :: lnAllC (l.take k) ++ lnPuts e ++ [clearP]) = some { c1 with err := 0 } := by
  obtain ⟨c, h1, h2⟩ := clear_total lax 0 (l.take k) (fun x hx => hg x (List.mem_of_mem_take hx)) [] _ (bnd_B lax 0)
  obtain ⟨c1, h3, h4, _⟩ := clear_line h2 e (hg e (List.mem_of_getElem? he))
  have e1 : runs fTx St0 (laxP lax :: lnAllC (l.take k) ++ lnPuts e) = some c1 := by
    rw [List.cons_append, lax_runs, runs_append, h1]
    exact h3
  refine ⟨c1, e1, h4, ?_⟩
  rw [runs_append, e1]
  simp only [Option.bind_some, runs, clear_step]
theorem clear_all (lax : Bool) (l : List LnD) (hg : ∀ e, e ∈ l → LnGood e) : ∃ c, runs fTx St0 (laxP lax :: lnAllC l) = some c ∧ c.buf = wantT lax 0 l := by
  obtain ⟨c, h1, h2⟩ := clear_total lax 0 l hg [] _ (bnd_B lax 0)
  exact ⟨c, by rw [lax_runs]; exact h1, by rw [h2.buf]; rfl⟩
theorem plain_all (lax : Bool) (l : List LnD) (hg : ∀ e, e ∈ l → LnGood e) : ∃ c, runs fTx St0 (laxP lax :: lnAll l) = some c ∧ c.buf = wantT lax 0 l ∧ (c.err != 0) = firstT' lax 0 l := by
  obtain ⟨c, E1, k1, k2, k3⟩ := each_total lax 0 l hg 0 [] _ (bnd_B lax 0)
  refine ⟨c, by rw [lax_runs]; exact k1, by rw [k2.buf]; rfl, ?_⟩
  have he := k2.err
  subst he
  rw [Bool.eq_iff_iff, bne_iff_ne, k3]
  simp
theorem plain_one (lax : Bool) (e : LnD) (hg : LnGood e) : runs fTx St0 (laxP lax :: lnPuts e) = some (aloneSt lax 0 e) := by rw [lax_runs, alone_runs _ _ _ hg]

/-- An encoder that was handed a buffer. -/
def bufP (b : ByteArray) : PutD := ⟨8, b, ⟨#[]⟩, VD0, 0, 0, false⟩
theorem buf_runs (F : Nat → List UInt8) (b : ByteArray) (lax : Bool) (r : List PutD) : runs F St0 (bufP b :: laxP lax :: r) = runs F { stB lax 0 with buf := b.data.toList } r := by
  have e1 : (bufP b).step F St0 = some { St0 with buf := b.data.toList } := by unfold PutD.step bufP; simp [St0]
  have e2 : (laxP lax).step F { St0 with buf := b.data.toList } = some { stB lax 0 with buf := b.data.toList } := by unfold PutD.step laxP; simp [stB, St0]
  simp only [runs]
  rw [e1]
  simp only [Option.bind_some]
  rw [e2]
  rfl
theorem line_buf (lax : Bool) (B m : List UInt8) : ({ stB lax 0 with buf := B } : St).line m = ({ stB lax 0 with buf := B, sec := 5 } : St).line m := by
  unfold St.line stB St0
  simp
theorem buf_all (b : ByteArray) (lax : Bool) (l : List LnD) (hg : ∀ e, e ∈ l → LnGood e) : ∃ c, runs fTx St0 (bufP b :: laxP lax :: lnAll l) = some c ∧ c.buf = b.data.toList ++ wantT lax 0 l ∧ (c.err != 0) = firstT' lax 0 l := by
  rw [buf_runs]
  by_cases hB : b.data.toList = []
  · rw [hB]
    have := plain_all lax l hg
    rw [lax_runs] at this
    exact this
  · have hb : Bnd lax 0 0 b.data.toList { stB lax 0 with buf := b.data.toList, sec := 5 } := ⟨rfl, by rw [if_neg hB], rfl, rfl, rfl⟩
    obtain ⟨c, E1, k1, k2, k3⟩ := each_total lax 0 l hg 0 _ _ hb
    cases l with
    | nil => exact ⟨_, rfl, by simp [wantT], rfl⟩
    | cons e r =>
      refine ⟨c, ?_, k2.buf, ?_⟩
      · rw [← k1]
        have e1 : (e :: r).flatMap lnPuts = lnHead e :: ((lnPuts e).tail ++ r.flatMap lnPuts) := by simp [lnPuts, lnFields, lnTags]
        unfold lnAll
        rw [e1]
        simp only [runs, step_head, Option.bind_some, line_buf lax _ _]
      · have he := k2.err
        subst he
        rw [Bool.eq_iff_iff, bne_iff_ne, k3]
        simp
end Go.Proofs.YtaaogjhaokaggaaGreatDoor
