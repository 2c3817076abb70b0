/- PROVED HERE: a part of round r2's proofs (text LpM): lemmas and walks that later texts use. CONDITIONS: those written ahead of each theorem. -/
import Derived.Test.YtpkkgngpjeoffaaGreatDoorLpP
namespace Go.Proofs.YtpkkgngpjeoffaaGreatDoor
open Go.RowKit

theorem Mach.fr {W W' : World} {o bp b : Nat} {pv bv : Value} {po : Option (Nat × Value)} {bl : List UInt8} {T : List Nat} (h : Mach W o bp b pv po bv bl) (f : Fr T W W') (ho : o ∉ T) (hm : ∀ s, s ∈ mblk bp b pv po bv → s ∉ T) : Mach W' o bp b pv po bv bl := by
  obtain ⟨⟨c2, c3, c4, h1⟩, ⟨⟨u, h2⟩, h3⟩, h4, h5⟩ := h
  have hbp := hm bp (by simp [mblk])
  have hb := hm b (by simp [mblk])
  have hpv : ∀ k, pv.ownBlock = some k → k ∉ T := fun k hk => hm k (by simp [mblk, hk])
  have hbv : ∀ k, bv.ownBlock = some k → k ∉ T := fun k hk => hm k (by simp [mblk, hk])
  refine ⟨⟨c2, c3, c4, f.blk h1 ho⟩, ⟨⟨u, f.blk h2 hbp⟩, ?_⟩, h4.fr f hb hbv, h5⟩
  cases po with
  | none => exact h3.fr f hpv
  | some p =>
    obtain ⟨q, v⟩ := p
    obtain ⟨k1, k2, k3⟩ := h3
    exact ⟨k1.fr f hpv, f.blk k2 (hm q (by simp [mblk])), k3.fr f (fun k hk => hm k (by simp [mblk, hk]))⟩
theorem Mach.tag {W : World} {o bp b : Nat} {pv bv : Value} {po : Option (Nat × Value)} {bl : List UInt8} (h : Mach W o bp b pv po bv bl) : ∀ s, s ∈ o :: mblk bp b pv po bv → ∃ c t x, W.heap[s]? = some (.cells c t x) ∧ (t = 94 ∨ t = 174 ∨ t = 46 ∨ t = 87 ∨ t = 5 ∨ t = 42) := by
  obtain ⟨⟨c2, c3, c4, h1⟩, ⟨⟨u, h2⟩, h3⟩, h4, h5⟩ := h
  intro s hs
  have hpv : s ∈ pv.ownBlock.toList → ∃ c t x, W.heap[s]? = some (.cells c t x) ∧ t = 87 := by
    intro hs
    have hO : ∃ n cs, OwnC W 87 1 pv n cs := by
      cases po with
      | none => exact ⟨_, _, h3⟩
      | some p => exact ⟨_, _, h3.1⟩
    obtain ⟨n, cs, hO⟩ := hO
    obtain ⟨c, x, h⟩ := ownC_tag hO (g := s) (by simpa using hs)
    exact ⟨c, _, x, h, rfl⟩
  unfold mblk at hs
  simp only [List.mem_cons, List.mem_append] at hs
  rcases hs with rfl | rfl | rfl | (hs | hs) | hs
  · exact ⟨_, _, _, h1, by simp⟩
  · exact ⟨_, _, _, h2, by simp⟩
  · obtain ⟨lr, h⟩ := h4.1
    exact ⟨_, _, _, h, by simp⟩
  · obtain ⟨c, t, x, h, rfl⟩ := hpv hs
    exact ⟨_, _, _, h, by simp⟩
  · obtain ⟨c, x, h⟩ := bufW_tag h4 (g := s) (by simpa using hs)
    exact ⟨_, _, _, h, by simp⟩
  · cases po with
    | none => cases hs
    | some p =>
      obtain ⟨q, v⟩ := p
      simp only [List.mem_cons] at hs
      rcases hs with rfl | hs
      · exact ⟨_, _, _, h3.2.1, by simp⟩
      · obtain ⟨c, x, h⟩ := own_tag h3.2.2 (g := s) (by simpa using hs)
        exact ⟨_, _, _, h, by simp⟩
/-- The machine of a streamed write, at a round's head. -/
structure Lp (A W : World) (ea : Addr) (o bp b r q g cap : Nat) (sv : Value) (sz : List Int) (S : ByteArray) (a : Nat) (pv : Value) (po : Option (Nat × Value)) (bv : Value) (bl : List UInt8) : Prop where
  fr : Fr [] A W
  gv : Gv A.heap.size ea A
  mach : Mach W o bp b pv po bv bl
  mb : ∀ s, s ∈ mblk bp b pv po bv → A.heap.size ≤ s
  rd : W.heap[r]? = some (.cells #[.string S, sv, .int .i64 a, .bool false] 82 (0, 0))
  szs : SzS W A.heap.size sv sz
  rq : W.heap[q]? = some (.cells #[.slice (some ⟨g, 0, none⟩) 1024 cap] 42 (0, 0))
  own : Own W 5 (.slice (some ⟨g, 0, none⟩) 0 cap) []
  hcap : 1024 ≤ cap
  br : A.heap.size ≤ r
  bq : A.heap.size ≤ q
  bg : A.heap.size ≤ g
  nq : q ∉ mblk bp b pv po bv
  ng : g ∉ mblk bp b pv po bv
theorem Lp.gvw {A W : World} {ea : Addr} {o bp b r q g cap : Nat} {sv : Value} {sz : List Int} {S : ByteArray} {a : Nat} {pv bv : Value} {po : Option (Nat × Value)} {bl : List UInt8} (h : Lp A W ea o bp b r q g cap sv sz S a pv po bv bl) : Gv A.heap.size ea W := h.gv.fr h.fr (fun _ h => by cases h)
theorem Lp.nr {A W : World} {ea : Addr} {o bp b r q g cap : Nat} {sv : Value} {sz : List Int} {S : ByteArray} {a : Nat} {pv bv : Value} {po : Option (Nat × Value)} {bl : List UInt8} (h : Lp A W ea o bp b r q g cap sv sz S a pv po bv bl) : r ∉ o :: mblk bp b pv po bv := by
  intro hm
  obtain ⟨c, t, x, h1, h2⟩ := h.mach.tag r hm
  exact ne_tag h.rd h1 (by rcases h2 with rfl | rfl | rfl | rfl | rfl | rfl <;> decide) rfl
theorem Lp.rg {A W : World} {ea : Addr} {o bp b r q g cap : Nat} {sv : Value} {sz : List Int} {S : ByteArray} {a : Nat} {pv bv : Value} {po : Option (Nat × Value)} {bl : List UInt8} (h : Lp A W ea o bp b r q g cap sv sz S a pv po bv bl) : r ≠ g ∧ q ≠ g ∧ q ≠ r ∧ o ≠ g := by
  obtain ⟨c, x, hg⟩ := own_tag h.own (g := g) rfl
  obtain ⟨⟨c2, c3, c4, h1⟩, _⟩ := h.mach
  exact ⟨ne_tag h.rd hg (by decide), ne_tag h.rq hg (by decide), ne_tag h.rq h.rd (by decide), ne_tag h1 hg (by decide)⟩
/-- Behind a reading. -/
theorem Lp.read {A W W' : World} {ea : Addr} {o bp b r q g cap : Nat} {sv : Value} {sz : List Int} {S : ByteArray} {a : Nat} {pv bv : Value} {po : Option (Nat × Value)} {bl l : List UInt8} (h : Lp A W ea o bp b r q g cap sv sz S a pv po bv bl) {e : Ending} (hr : RdQ W r g cap sv sz a l e W') :
    ∃ S' : ByteArray, e = .returned (.tuple #[.int .i64 (l.take (stepN sz a)).length, .nilIface]) ∧ S'.data.toList = l.drop (stepN sz a) ∧ Lp A W' ea o bp b r q g cap sv sz S' (nextA sz a) pv po bv bl ∧ Own W' 5 (.slice (some ⟨g, 0, none⟩) (l.take (stepN sz a)).length cap) (l.take (stepN sz a)) := by
  obtain ⟨S', he, hS, hf, hrw, ho⟩ := hr
  obtain ⟨h1, h2, h3, h4⟩ := h.rg
  have hnr := h.nr
  refine ⟨S', he, hS, ?_, ho⟩
  have hin : ∀ s, s ∈ [r, g] → A.heap.size ≤ s := fun s hs => by
    simp at hs
    rcases hs with rfl | rfl
    · exact h.br
    · exact h.bg
  refine { h with fr := h.fr.step hf (fun t ht => .inr (hin t ht)), mach := h.mach.fr hf ?_ ?_, rd := hrw, szs := h.szs.fr hf hin, rq := hf.blk h.rq (by simp; exact ⟨h3, h2⟩), own := own_cut ho }
  · simp
    exact ⟨fun e => hnr (by rw [e]; simp), h4⟩
  · intro s hs hm
    simp at hm
    rcases hm with rfl | rfl
    · exact hnr (List.mem_cons_of_mem _ hs)
    · exact h.ng hs
/-- Behind a piece on the wire. -/
theorem Lp.wrote {A W W' : World} {ea : Addr} {o bp b r q g cap : Nat} {sv : Value} {sz : List Int} {S : ByteArray} {a : Nat} {pv bv : Value} {po : Option (Nat × Value)} {bl out : List UInt8} (h : Lp A W ea o bp b r q g cap sv sz S a pv po bv bl) (hq : MQ W o bp b pv po bv bl out W') :
    ∃ pv' po' bv', Lp A W' ea o bp b r q g cap sv sz S a pv' po' bv' (bl ++ out) := by
  obtain ⟨hf, pv', po', bv', hM, hm⟩ := hq
  have hnr := h.nr
  refine ⟨pv', po', bv', ?_⟩
  have hlt : ∀ {k : Nat} {c : Array Value} {t : TypeId} {x : Nat × Nat}, W.heap[k]? = some (.cells c t x) → k < W.heap.size := fun hk => (Array.getElem?_eq_some_iff.1 hk).1
  obtain ⟨cg, xg, hg⟩ := own_tag h.own (g := g) rfl
  refine { h with fr := h.fr.step hf (fun t ht => .inr (h.mb t ht)), mach := hM, mb := fun s hs => ?_, rd := hf.blk h.rd (fun hh => hnr (List.mem_cons_of_mem _ hh)), szs := h.szs.fr hf h.mb, rq := hf.blk h.rq h.nq, own := h.own.fr hf (fun k hk => by simp [Value.ownBlock] at hk; subst hk; exact h.ng), nq := fun hh => ?_, ng := fun hh => ?_ }
  · rcases hm s hs with k | k
    · exact h.mb s k
    · exact Nat.le_trans h.fr.size k
  · rcases hm q hh with k | k
    · exact h.nq k
    · have := hlt h.rq; omega
  · rcases hm g hh with k | k
    · exact h.ng k
    · have := hlt hg; omega
/-- Nothing turned. -/
theorem Lp.fr0 {A W W' : World} {ea : Addr} {o bp b r q g cap : Nat} {sv : Value} {sz : List Int} {S : ByteArray} {a : Nat} {pv bv : Value} {po : Option (Nat × Value)} {bl : List UInt8} (h : Lp A W ea o bp b r q g cap sv sz S a pv po bv bl) (f : Fr [] W W') : Lp A W' ea o bp b r q g cap sv sz S a pv po bv bl :=
  { h with fr := h.fr.trans f, mach := h.mach.fr f List.not_mem_nil (fun _ _ => List.not_mem_nil), rd := f.blk h.rd List.not_mem_nil, szs := h.szs.fr f (fun _ h => by cases h), rq := f.blk h.rq List.not_mem_nil, own := h.own.fr f (fun _ _ => List.not_mem_nil) }
end Go.Proofs.YtpkkgngpjeoffaaGreatDoor
