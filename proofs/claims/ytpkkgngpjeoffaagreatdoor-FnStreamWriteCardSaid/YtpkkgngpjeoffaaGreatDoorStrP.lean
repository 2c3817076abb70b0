/- Plain: the chunks of a text that a reader gives in pieces. -/
namespace Go.Proofs.YtpkkgngpjeoffaaGreatDoor

def szAt (sz : List Int) (a : Nat) : Int := (sz[a % sz.length]?).getD 0
/-- The chunks from the place a among the sizes, of what is left. -/
inductive Run (sz : List Int) : Nat → List UInt8 → List (List UInt8) → Prop
  | done (a : Nat) : Run sz a [] []
  | whole (a : Nat) (l : List UInt8) (cs : List (List UInt8)) : sz = [] → l ≠ [] → Run sz a (l.drop 1024) cs → Run sz a l (l.take 1024 :: cs)
  | piece (a : Nat) (l : List UInt8) (cs : List (List UInt8)) : sz ≠ [] → l ≠ [] → 0 < szAt sz a → Run sz (a + 1) (l.drop (min 1024 (szAt sz a).toNat)) cs → Run sz a l (l.take (min 1024 (szAt sz a).toNat) :: cs)
  | skip (a : Nat) (l : List UInt8) (cs : List (List UInt8)) : sz ≠ [] → l ≠ [] → szAt sz a ≤ 0 → Run sz (a + 1) l cs → Run sz a l cs
/-- How far the next size above 0 is. -/
def Far (sz : List Int) (a d : Nat) : Prop := 0 < szAt sz (a + d)
theorem szAt_mod (sz : List Int) (a k : Nat) : szAt sz (a + k * sz.length) = szAt sz a := by
  unfold szAt
  rw [Nat.add_mul_mod_self_right]
theorem far_ex {sz : List Int} (h : ∃ n ∈ sz, 0 < n) (a : Nat) : ∃ d, d < sz.length ∧ Far sz a d := by
  obtain ⟨n, hn, h0⟩ := h
  obtain ⟨j, hj, rfl⟩ := List.getElem_of_mem hn
  have hl : 0 < sz.length := by omega
  -- the first d with (a + d) % len = j
  refine ⟨(j + (sz.length - a % sz.length)) % sz.length, Nat.mod_lt _ hl, ?_⟩
  unfold Far szAt
  have hm := Nat.mod_lt a hl
  have : (a + (j + (sz.length - a % sz.length)) % sz.length) % sz.length = j := by
    rw [Nat.add_mod_mod]
    have hd := Nat.div_add_mod a sz.length
    have e : a + (j + (sz.length - a % sz.length)) = j + sz.length * (a / sz.length + 1) := by
      rw [Nat.mul_add, Nat.mul_one]
      omega
    rw [e, Nat.add_mul_mod_self_left, Nat.mod_eq_of_lt hj]
  rw [this, List.getElem?_eq_getElem hj]
  exact h0
/-- A run says the text. -/
theorem Run.text {sz : List Int} {a : Nat} {l : List UInt8} {cs : List (List UInt8)} (h : Run sz a l cs) : cs.flatten = l := by
  induction h with
  | done => rfl
  | whole a l cs _ _ _ ih => rw [List.flatten_cons, ih, List.take_append_drop]
  | piece a l cs _ _ _ _ ih => rw [List.flatten_cons, ih, List.take_append_drop]
  | skip a l cs _ _ _ _ ih => exact ih
theorem Run.ne {sz : List Int} {a : Nat} {l : List UInt8} {cs : List (List UInt8)} (h : Run sz a l cs) : ∀ c ∈ cs, c ≠ [] ∧ c.length ≤ 1024 := by
  induction h with
  | done => intro c hc; cases hc
  | whole a l cs _ hl _ ih =>
    intro c hc
    rcases List.mem_cons.1 hc with rfl | hc
    · refine ⟨fun e => ?_, by rw [List.length_take]; omega⟩
      have := congrArg List.length e
      rw [List.length_take, List.length_nil] at this
      have := List.length_pos_iff.2 hl
      omega
    · exact ih c hc
  | piece a l cs _ hl hp _ ih =>
    intro c hc
    rcases List.mem_cons.1 hc with rfl | hc
    · refine ⟨fun e => ?_, by rw [List.length_take]; omega⟩
      have := congrArg List.length e
      rw [List.length_take, List.length_nil] at this
      have := List.length_pos_iff.2 hl
      omega
    · exact ih c hc
  | skip a l cs _ _ _ _ ih => exact ih
/-- What comes next where a size is 0 or less. -/
theorem Run.skipped {sz : List Int} {a : Nat} {l c : List UInt8} {cs : List (List UInt8)} (h : Run sz a l (c :: cs)) (hs : sz ≠ []) (h0 : szAt sz a ≤ 0) : Run sz (a + 1) l (c :: cs) := by
  cases h with
  | whole _ _ _ e => exact absurd e hs
  | piece _ _ _ _ _ hp => omega
  | skip _ _ _ _ _ _ h => exact h
theorem Run.taken {sz : List Int} {a : Nat} {l c : List UInt8} {cs : List (List UInt8)} (h : Run sz a l (c :: cs)) (hs : sz ≠ []) (h0 : 0 < szAt sz a) : c = l.take (min 1024 (szAt sz a).toNat) ∧ Run sz (a + 1) (l.drop (min 1024 (szAt sz a).toNat)) cs := by
  cases h with
  | whole _ _ _ e => exact absurd e hs
  | piece _ _ _ _ _ _ h => exact ⟨rfl, h⟩
  | skip _ _ _ _ _ hp => omega
theorem Run.wholly {a : Nat} {l c : List UInt8} {cs : List (List UInt8)} (h : Run [] a l (c :: cs)) : c = l.take 1024 ∧ Run [] a (l.drop 1024) cs := by
  cases h with
  | whole _ _ _ _ _ h => exact ⟨rfl, h⟩
  | piece _ _ _ e => exact absurd rfl e
  | skip _ _ _ e => exact absurd rfl e
end Go.Proofs.YtpkkgngpjeoffaaGreatDoor
