import Derived.Test.YtaaogjhaokaggaaGreatDoorEnco
namespace Go.Proofs.YtaaogjhaokaggaaGreatDoor
open Go.RowKit

theorem said_line (F : Nat → List UInt8) (hV : ValidSaid) (st : St) (p : PutD) (hop : p.op = 0) (hk : p.key.size ≤ 1000000) (hst : st.sec = 1 → st.start ≤ st.buf.length) (hlen : st.buf.length ≤ 100000000) : PutSaid F st p := by
  obtain ⟨op, key, value, ⟨kind, s, vn, u, f, x⟩, n, m, z⟩ := p
  simp only at hop hk
  subst hop
  intro B ea b w hG hE
  exact put_line b st key value kind s vn u f x n m z w hG hE hV hk hst hlen
theorem said_tag (F : Nat → List UInt8) (hV : ValidSaid) (st : St) (p : PutD) (hop : p.op = 1) (hk : p.key.size ≤ 1000000) (hv : p.value.size ≤ 1000000) (hst : st.start ≤ st.buf.length) (hlen : st.buf.length ≤ 100000000) (hkl : st.key.length ≤ 1000000) : PutSaid F st p := by
  obtain ⟨op, key, value, ⟨kind, s, vn, u, f, x⟩, n, m, z⟩ := p
  simp only at hop hk hv
  subst hop
  intro B ea b w hG hE
  exact put_tag b st key value kind s vn u f x n m z w hG hE hV hk hv hst hlen hkl
theorem said_end (F : Nat → List UInt8) (st : St) (p : PutD) (hop : p.op = 3) (hst : st.start ≤ st.buf.length) (hlen : st.buf.length ≤ 100000000) (hn0 : -9223372036854775808 ≤ p.n) (hn1 : p.n ≤ 9223372036854775807) (hm0 : -9223372036854775808 ≤ p.more) (hm1 : p.more ≤ 9223372036854775807) : PutSaid F st p := by
  obtain ⟨op, key, value, ⟨kind, s, vn, u, f, x⟩, n, m, z⟩ := p
  simp only at hop hn0 hn1 hm0 hm1
  subst hop
  intro B ea b w hG hE
  exact put_end b st key value kind s vn u f x n m z w hG hE hst hlen hn0 hn1 hm0 hm1
theorem said_clear (F : Nat → List UInt8) (st : St) (p : PutD) (hop : p.op = 4) : PutSaid F st p := by
  obtain ⟨op, key, value, ⟨kind, s, vn, u, f, x⟩, n, m, z⟩ := p
  simp only at hop
  subst hop
  intro B ea b w hG hE
  exact put_clear b st key value kind s vn u f x n m z w hG hE
theorem said_lax (F : Nat → List UInt8) (st : St) (p : PutD) (hop : p.op = 7) : PutSaid F st p := by
  obtain ⟨op, key, value, ⟨kind, s, vn, u, f, x⟩, n, m, z⟩ := p
  simp only at hop
  subst hop
  intro B ea b w hG hE
  exact put_lax b st key value kind s vn u f x n m z w hG hE
theorem said_field {F : Nat → List UInt8} {fin : Nat → Prop} (hV : ValidSaid) (hF : FloatSaid F fin) (st : St) (p : PutD) (hop : p.op = 2) (hk : p.key.size ≤ 1000000) (hst : st.start ≤ st.buf.length) (hlen : st.buf.length ≤ 100000000)
    (hok : p.v.Ok) (hFV : p.v.kind = 4 → FloatValueSaid) (hfin : ∀ n, p.v.made = some (.flt n) → fin n) : PutSaid F st p := by
  have hM := fun {B : Nat} {ea : Addr} w (hG : Gl B ea w) => value_any hV p.v hok hFV w hG
  intro B ea b w hG hE
  obtain ⟨op, key, value, ⟨kind, s, vn, u, f, x⟩, n, m, z⟩ := p
  simp only at hop hk
  subst hop
  simp only [PutD.step, PutD.cells]
  rw [if_neg (by decide), if_neg (by decide), if_pos (.inl trivial)]
  cases hm : VD.made ⟨kind, s, vn, u, f, x⟩ with
  | none =>
    simp only [hm] at hM
    exact put_field_no b key value kind s vn u f x n m z w hG (fun w hG => hM w hG)
  | some y =>
    simp only [hm] at hM
    refine put_field b st key value kind s vn u f x n m z w hG hE hV hF hk hst hlen y (fun n hn => hfin n (by rw [hm, hn])) (fun t ht => ?_) (fun w hG => hM w hG)
    have := hok.s
    simp only [VD.made] at hm
    subst ht
    repeat' split at hm
    all_goals first | (cases hm; simpa using this) | cases hm

/-- No float is asked of. -/
theorem noFloat : FloatSaid (fun _ => []) (fun _ => False) := fun _ _ _ _ _ _ h => h.elim

/-- A slice of calls that the law itself made. -/
theorem flat_at : ∀ (l : List PutD) (i : Nat) (p : PutD), l[i]? = some p → ∀ j u, p.cells[j]? = some u → (l.flatMap (·.cells.toList))[i * 12 + j]? = some u
  | [], i, p, h, _, _, _ => by simp at h
  | q :: r, 0, p, h, j, u, hu => by
    simp at h; subst h
    have hj : j < q.cells.toList.length := by simpa using (Array.getElem?_eq_some_iff.1 hu).1
    rw [List.flatMap_cons, Nat.zero_mul, Nat.zero_add, List.getElem?_append_left hj]
    simpa using hu
  | q :: r, i + 1, p, h, j, u, hu => by
    have h12 : q.cells.toList.length = 12 := rfl
    rw [List.flatMap_cons, List.getElem?_append_right (by omega), h12, show (i + 1) * 12 + j - 12 = i * 12 + j by omega]
    exact flat_at r i p (by simpa using h) j u hu
theorem PutsIn.of {w : World} {v : Value} {l : List PutD} (h : OwnC w 38 12 v l.length (l.flatMap (·.cells.toList))) : PutsIn w v l := by
  rcases h.2.2 with ⟨e, e2⟩ | ⟨g, cap, e, cur, fr, h4, h5, h6, h7, h8⟩
  · exact .inl ⟨List.eq_nil_of_length_eq_zero e2, none, 0, e⟩
  · refine .inr ⟨g, 0, cap, cur, fr, e, h4, fun i p hp j u hu => ?_⟩
    have h9 := flat_at l i p hp j u hu
    have hl := (List.getElem?_eq_some_iff.1 h9).1
    have h10 := congrArg (fun x => x[i * 12 + j]?) h8
    simp only [List.getElem?_take, if_pos hl, h9] at h10
    simpa using h10
end Go.Proofs.YtaaogjhaokaggaaGreatDoor
