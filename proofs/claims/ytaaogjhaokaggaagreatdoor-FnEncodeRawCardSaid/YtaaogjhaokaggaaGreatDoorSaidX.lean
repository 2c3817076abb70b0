import Derived.Test.YtaaogjhaokaggaaGreatDoorEncoX
import Derived.Lib.ValidLaws
namespace Go.Proofs.YtaaogjhaokaggaaGreatDoor
open Go.RowKit

theorem said_line (F : Nat → List UInt8) (hV : ValidSaid) (st : St) (p : PutD) (hop : p.op = 0) (hk : p.key.size ≤ 1000000) (hst : st.sec = 1 → st.start ≤ st.buf.length) (hlen : st.buf.length ≤ 100000000) : PutSaid F st p := by
  obtain ⟨op, key, value, ⟨kind, s, vn, u, f, x⟩, n, m, z⟩ := p
  simp only at hop hk
  subst hop
  intro B ea b w hG hE
  exact put_line b st key value kind s vn u f x n m z w hG hE hV hk hst hlen
theorem said_tag (F : Nat → List UInt8) (hV : ValidSaid) (st : St) (p : PutD) (hop : p.op = 1) (hk : p.key.size ≤ 1000000) (hv : p.value.size ≤ 1000000) (hst : st.start ≤ st.buf.length) (hlen : st.buf.length ≤ 100000000) (hkl : st.key.length ≤ 1000000) : PutSaid F st p := by
  obtain ⟨op, key, value, ⟨kind, s, vn, u, f, x⟩, n, m, z⟩ := p
  simp only at hop hk hv
  subst hop
  intro B ea b w hG hE
  exact put_tag b st key value kind s vn u f x n m z w hG hE hV hk hv hst hlen hkl
theorem said_end (F : Nat → List UInt8) (st : St) (p : PutD) (hop : p.op = 3) (hst : st.start ≤ st.buf.length) (hlen : st.buf.length ≤ 100000000) (hn0 : -9223372036854775808 ≤ p.n) (hn1 : p.n ≤ 9223372036854775807) (hm0 : -9223372036854775808 ≤ p.more) (hm1 : p.more ≤ 9223372036854775807) : PutSaid F st p := by
  obtain ⟨op, key, value, ⟨kind, s, vn, u, f, x⟩, n, m, z⟩ := p
  simp only at hop hn0 hn1 hm0 hm1
  subst hop
  intro B ea b w hG hE
  exact put_end b st key value kind s vn u f x n m z w hG hE hst hlen hn0 hn1 hm0 hm1
theorem said_clear (F : Nat → List UInt8) (st : St) (p : PutD) (hop : p.op = 4) : PutSaid F st p := by
  obtain ⟨op, key, value, ⟨kind, s, vn, u, f, x⟩, n, m, z⟩ := p
  simp only at hop
  subst hop
  intro B ea b w hG hE
  exact put_clear b st key value kind s vn u f x n m z w hG hE
theorem said_lax (F : Nat → List UInt8) (st : St) (p : PutD) (hop : p.op = 7) : PutSaid F st p := by
  obtain ⟨op, key, value, ⟨kind, s, vn, u, f, x⟩, n, m, z⟩ := p
  simp only at hop
  subst hop
  intro B ea b w hG hE
  exact put_lax b st key value kind s vn u f x n m z w hG hE
theorem said_field {F : Nat → List UInt8} {fin : Nat → Prop} (hV : ValidSaid) (hF : FloatSaid F fin) (st : St) (p : PutD) (hop : p.op = 2) (hk : p.key.size ≤ 1000000) (hst : st.start ≤ st.buf.length) (hlen : st.buf.length ≤ 100000000)
    (hok : p.v.Ok) (hFV : p.v.kind = 4 → FloatValueSaid) (hfin : ∀ n, p.v.made = some (.flt n) → fin n) : PutSaid F st p := by
  have hM := fun {B : Nat} {ea : Addr} w (hG : Gl B ea w) => value_any hV p.v hok hFV w hG.toGv
  intro B ea b w hG hE
  obtain ⟨op, key, value, ⟨kind, s, vn, u, f, x⟩, n, m, z⟩ := p
  simp only at hop hk
  subst hop
  simp only [PutD.step, PutD.cells]
  rw [if_neg (by decide), if_neg (by decide), if_pos (.inl trivial)]
  cases hm : VD.made ⟨kind, s, vn, u, f, x⟩ with
  | none =>
    simp only [hm] at hM
    exact put_field_no b key value kind s vn u f x n m z w hG (fun w hG => hM w hG)
  | some y =>
    simp only [hm] at hM
    refine put_field b st key value kind s vn u f x n m z w hG hE hV hF hk hst hlen y (fun n hn => hfin n (by rw [hm, hn])) (fun t ht => ?_) (fun w hG => hM w hG)
    have := hok.s
    simp only [VD.made] at hm
    subst ht
    repeat' split at hm
    all_goals first | (cases hm; simpa using this) | cases hm

/-- No float is asked of. -/
theorem noFloat : FloatSaid (fun _ => []) (fun _ => False) := fun _ _ _ _ _ _ h => h.elim

/-- A slice of calls that the law itself made. -/
theorem flat_at : ∀ (l : List PutD) (i : Nat) (p : PutD), l[i]? = some p → ∀ j u, p.cells[j]? = some u → (l.flatMap (·.cells.toList))[i * 12 + j]? = some u
  | [], i, p, h, _, _, _ => by simp at h
  | q :: r, 0, p, h, j, u, hu => by
    simp at h; subst h
    have hj : j < q.cells.toList.length := by simpa using (Array.getElem?_eq_some_iff.1 hu).1
    rw [List.flatMap_cons, Nat.zero_mul, Nat.zero_add, List.getElem?_append_left hj]
    simpa using hu
  | q :: r, i + 1, p, h, j, u, hu => by
    have h12 : q.cells.toList.length = 12 := rfl
    rw [List.flatMap_cons, List.getElem?_append_right (by omega), h12, show (i + 1) * 12 + j - 12 = i * 12 + j by omega]
    exact flat_at r i p (by simpa using h) j u hu
theorem PutsIn.of {w : World} {v : Value} {l : List PutD} (h : OwnC w 38 12 v l.length (l.flatMap (·.cells.toList))) : PutsIn w v l := by
  rcases h.2.2 with ⟨e, e2⟩ | ⟨g, cap, e, cur, fr, h4, h5, h6, h7, h8⟩
  · exact .inl ⟨List.eq_nil_of_length_eq_zero e2, none, 0, e⟩
  · refine .inr ⟨g, 0, cap, cur, fr, e, h4, fun i p hp j u hu => ?_⟩
    have h9 := flat_at l i p hp j u hu
    have hl := (List.getElem?_eq_some_iff.1 h9).1
    have h10 := congrArg (fun x => x[i * 12 + j]?) h8
    simp only [List.getElem?_take, if_pos hl, h9] at h10
    simpa using h10
end Go.Proofs.YtaaogjhaokaggaaGreatDoor
namespace Go.Proofs.YtaaogjhaokaggaaGreatDoor
open Go.RowKit

/-! ### Two texts that may be keys may be one together. -/
theorem checkN_more {n b1 b2 b3 sz lo hi k : Nat} (h : Lib.checkN n b1 b2 b3 sz lo hi = some k) : 2 ≤ k ∧ k ≤ n ∧ ∀ m c1 c2 c3, n ≤ m → (1 < n → c1 = b1) → (2 < n → c2 = b2) → (3 < n → c3 = b3) → Lib.checkN m c1 c2 c3 sz lo hi = some k := by
  unfold Lib.checkN at h
  split at h
  · rename_i hs
    split at h
    · cases h
    · rename_i hn
      cases h
      refine ⟨by omega, by omega, fun m c1 c2 c3 hm e1 e2 e3 => ?_⟩
      rw [e1 (by omega)]
      unfold Lib.checkN
      rw [if_pos hs, if_neg (by omega)]
  · rename_i hs2
    split at h
    · rename_i hs
      split at h
      · cases h
      · rename_i hn
        cases h
        refine ⟨by omega, by omega, fun m c1 c2 c3 hm e1 e2 e3 => ?_⟩
        rw [e1 (by omega), e2 (by omega)]
        unfold Lib.checkN
        rw [if_neg hs2, if_pos hs, if_neg (by omega)]
    · rename_i hs3
      split at h
      · rename_i hs
        split at h
        · cases h
        · rename_i hn
          cases h
          refine ⟨by omega, by omega, fun m c1 c2 c3 hm e1 e2 e3 => ?_⟩
          rw [e1 (by omega), e2 (by omega), e3 (by omega)]
          unfold Lib.checkN
          rw [if_neg hs2, if_neg hs3, if_pos hs, if_neg (by omega)]
      · cases h
theorem getD_app (a b : List UInt8) (j : Nat) (h : j < a.length) : (a ++ b).getD j 0 = a.getD j 0 := by
  simp [List.getD, List.getElem?_append_left h]
theorem validD_append : ∀ (n : Nat) (a b : List UInt8), a.length ≤ n → Lib.validD a = true → Lib.validD b = true → Lib.validD (a ++ b) = true
  | _, [], b, _, _, hb => by simpa using hb
  | 0, x :: t, _, h, _, _ => by simp at h
  | n + 1, x :: t, b, hl, ha, hb => by
    by_cases hx : x.toNat < 128
    · rw [Lib.validD_cons x t hx] at ha
      rw [List.cons_append, Lib.validD_cons x _ hx]
      exact validD_append n t b (by simp at hl; omega) ha hb
    · have h0 : 128 ≤ ((x :: t).getD 0 0).toNat := by simp; omega
      have h0' : 128 ≤ (((x :: t) ++ b).getD 0 0).toNat := by simp; omega
      rw [Lib.validD_lead (x :: t) (by simp) h0] at ha
      rw [Lib.validD_lead ((x :: t) ++ b) (by simp) h0', getD_app (x :: t) b 0 (by simp)]
      cases hc : Lib.checkN (x :: t).length ((x :: t).getD 1 0).toNat ((x :: t).getD 2 0).toNat ((x :: t).getD 3 0).toNat (Lib.firstT ((x :: t).getD 0 0).toNat % 8) (Lib.accLo (Lib.firstT ((x :: t).getD 0 0).toNat / 16)) (Lib.accHi (Lib.firstT ((x :: t).getD 0 0).toNat / 16)) with
      | none => rw [hc] at ha; cases ha
      | some k =>
        rw [hc] at ha
        obtain ⟨k2, kn, hm⟩ := checkN_more hc
        rw [hm ((x :: t) ++ b).length _ _ _ (by simp) (fun h => by rw [getD_app _ b 1 h]) (fun h => by rw [getD_app _ b 2 h]) (fun h => by rw [getD_app _ b 3 h])]
        simp only at ha ⊢
        rw [List.drop_append_of_le_length kn]
        exact validD_append n _ b (by simp at hl ⊢; omega) ha hb
theorem keyOk_append (a b : List UInt8) (ha : keyOk a = true) (hb : keyOk b = true) : keyOk (a ++ b) = true := by
  simp only [keyOk, Bool.and_eq_true, Bool.not_eq_true', List.isEmpty_eq_false_iff] at ha hb ⊢
  obtain ⟨⟨⟨a1, a2⟩, a3⟩, a4⟩ := ha
  obtain ⟨⟨⟨b1, b2⟩, b3⟩, b4⟩ := hb
  refine ⟨⟨⟨by simp [a1], validD_append _ a b (Nat.le_refl _) a2 b2⟩, by rw [List.all_append, a3, b3]; rfl⟩, ?_⟩
  have : (a ++ b).getLast? = b.getLast? := by
    rw [List.getLast?_append]
    cases hg : b.getLast? with
    | none => exact absurd (List.getLast?_eq_none_iff.1 hg) b1
    | some x => rfl
  rw [this]
  exact b4

/-! ### An encoder's lengths. -/
def Fine (K : Nat) (st : St) : Prop := st.start ≤ st.buf.length ∧ st.buf.length ≤ K ∧ st.key.length ≤ 1000000
theorem Fine.fail {K : Nat} {st : St} (h : Fine K st) (k : Nat) : Fine K (st.fail k) := by
  obtain ⟨h1, h2, h3⟩ := h
  refine ⟨?_, ?_, h3⟩ <;> simp only [St.fail, List.length_take] <;> omega
theorem Fine.line {K : Nat} {st : St} (h : Fine K st) (m : List UInt8) (M : Nat) (hm : m.length ≤ M) : Fine (K + 2 * M + 1) (st.line m) := by
  have hl := esc_len (tOf sM) m
  obtain ⟨st2, hst2⟩ : ∃ x, x = if st.sec = 1 then { st with sec := 1 }.fail 1 else { st with sec := 1 } := ⟨_, rfl⟩
  have h2 : Fine K st2 := by
    rw [hst2]
    have h1 : Fine K { st with sec := 1 } := h
    split
    · exact h1.fail 1
    · exact h1
  unfold St.line
  rw [← hst2]
  simp only
  have h3 : Fine K { st2 with key := [], start := st2.buf.length, bad := false } := ⟨Nat.le_refl _, h2.2.1, by simp⟩
  split
  · obtain ⟨q1, q2, q3⟩ := h3.fail 1
    exact ⟨q1, by omega, q3⟩
  · obtain ⟨q1, q2, q3⟩ := h3
    simp only at q2
    refine ⟨by simp, ?_, by simp⟩
    simp only [List.length_append]
    split <;> simp <;> omega
theorem Fine.tag {K : Nat} {st : St} (h : Fine K st) (k v : List UInt8) (M : Nat) (hk : k.length ≤ M) (hv : v.length ≤ M) (hM : M ≤ 1000000) : Fine (K + 4 * M + 2) (st.tag k v) := by
  have h1 := esc_len (tOf sK) k
  have h2 := esc_len (tOf sV) v
  unfold St.tag
  split
  · obtain ⟨q1, q2, q3⟩ := h.fail 1; exact ⟨q1, by omega, q3⟩
  · split
    · obtain ⟨q1, q2, q3⟩ := h.fail 1; exact ⟨q1, by omega, q3⟩
    · obtain ⟨st2, hst2⟩ : ∃ x, x = if st.lax = false then { st with key := k } else st := ⟨_, rfl⟩
      have h3 : Fine K st2 := by
        rw [hst2]; split
        · exact ⟨h.1, h.2.1, Nat.le_trans hk hM⟩
        · exact h
      rw [← hst2]
      simp only
      split
      · exact ⟨h3.1, by have := h3.2.1; omega, h3.2.2⟩
      · obtain ⟨q1, q2, q3⟩ := h3
        refine ⟨?_, ?_, q3⟩
        · simp only [List.length_append]; omega
        · simp only [List.length_append, List.length_singleton]; omega
theorem Fine.field {K : Nat} {st : St} (h : Fine K st) (F : Nat → List UInt8) (k : List UInt8) (x : Val) (M V : Nat) (hk : k.length ≤ M) (hx : (valText F x).length ≤ V) : Fine (K + 2 * M + 2 + V) (st.field F k x) := by
  have h1 := esc_len (tOf sK) k
  have h0 : Fine K { st with sec := 2 } := h
  unfold St.field
  split
  · obtain ⟨q1, q2, q3⟩ := h.fail 1; exact ⟨q1, by omega, q3⟩
  · split
    · obtain ⟨q1, q2, q3⟩ := h0.fail 1; exact ⟨q1, by omega, q3⟩
    · split
      · exact ⟨h.1, by have := h.2.1; simp only; omega, h.2.2⟩
      · obtain ⟨q1, q2, q3⟩ := h
        refine ⟨?_, ?_, q3⟩
        · simp only [List.length_append]; omega
        · simp only [List.length_append, List.length_singleton]; omega
theorem Fine.le {K K' : Nat} {st : St} (h : Fine K st) (hk : K ≤ K') : Fine K' st := ⟨h.1, Nat.le_trans h.2.1 hk, h.2.2⟩

/-! ### Once there is an error it stays. -/
theorem err_fail (st : St) (k : Nat) (hk : k ≠ 0) : (st.fail k).err ≠ 0 := by
  simp only [St.fail]; split <;> assumption
theorem err_line (st : St) (m : List UInt8) (h : st.err ≠ 0) : (st.line m).err ≠ 0 := by
  unfold St.line
  simp only
  split <;> split <;> simp [St.fail, h]
theorem err_tag (st : St) (k v : List UInt8) (h : st.err ≠ 0) : (st.tag k v).err ≠ 0 := by
  unfold St.tag
  split
  · exact err_fail _ _ (by decide)
  · split
    · exact err_fail _ _ (by decide)
    · simp only
      split <;> split <;> exact h
theorem err_field (F : Nat → List UInt8) (st : St) (k : List UInt8) (x : Val) (h : st.err ≠ 0) : (st.field F k x).err ≠ 0 := by
  unfold St.field
  split
  · exact err_fail _ _ (by decide)
  · split
    · exact err_fail _ _ (by decide)
    · split <;> exact h
theorem err_endl (st : St) (t : Option Int) (h : st.err ≠ 0) : (st.endl t).err ≠ 0 := by
  unfold St.endl
  split
  · exact err_fail _ _ (by decide)
  · cases t with
    | none => simp only; split <;> exact h
    | some n =>
      simp only
      split
      · exact err_fail _ _ (by decide)
      · split <;> exact h
end Go.Proofs.YtaaogjhaokaggaaGreatDoor
