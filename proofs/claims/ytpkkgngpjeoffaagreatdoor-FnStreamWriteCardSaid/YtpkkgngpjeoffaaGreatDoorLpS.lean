/- PROVED HERE: a part of round r2's proofs (text LpS): lemmas and walks that later texts use. CONDITIONS: those written ahead of each theorem. -/
import Derived.Test.YtpkkgngpjeoffaaGreatDoorLpM
namespace Go.Proofs.YtpkkgngpjeoffaaGreatDoor
open Go.RowKit

/-- A reading of what is left. -/
theorem Lp.calls_read {A W : World} {ea : Addr} {o bp b r q g cap : Nat} {sv : Value} {sz : List Int} {S : ByteArray} {a : Nat} {pv bv : Value} {po : Option (Nat × Value)} {bl l : List UInt8} (h : Lp A W ea o bp b r q g cap sv sz S a pv po bv bl)
    (hnil : sz = [] → sv = .slice none 0 0) (hsl : sz.length ≤ 1000) (ha : a ≤ 1000000000) (hS : S.data.toList = l) (hl : l ≠ []) (hlen : l.length ≤ 1000000) :
    Calls Tryz.prog 200 #[.pointer (some ⟨r, 0, none⟩), .slice (some ⟨g, 0, none⟩) 1024 cap] W (RdQ W r g cap sv sz a l) := by
  by_cases hz : sz = []
  · have hrd := h.rd
    rw [hnil hz] at hrd ⊢
    subst hz
    exact read_whole r g cap S a W l hrd hS hl hlen h.own h.hcap
  · exact read_piece (B := A.heap.size) r g cap S a W sv sz h.szs hz h.br h.bg ha hsl l h.rd hS hl hlen h.own h.hcap
/-- Where the rounds begin. -/
theorem lp_init {A w2 w3 w4 : World} {ea : Addr} {o bp b r q g cap : Nat} {sv : Value} {sz : List Int} {S : ByteArray} {pv pv' bv v : Value} {po : Option (Nat × Value)} {bl : List UInt8}
    (hf : Fr [] A w2) (hG : Gv A.heap.size ea A) (hM : Mach w2 o bp b pv po bv bl) (hmb : ∀ s, s ∈ mblk bp b pv po bv → A.heap.size ≤ s) (hr : w2.heap[r]? = some (.cells #[.string S, sv, .int .i64 0, .bool false] 82 (0, 0))) (hbr : A.heap.size ≤ r) (hsz : SzS w2 A.heap.size sv sz)
    (hf3 : Fr [bp] w2 w3) (hq : w3.heap[q]? = some (.cells #[v] 42 (0, 0))) (hp : PoolS w3 bp pv' none) (hpb : pv'.ownBlock = pv.ownBlock) (hm : GotQ w2 po q v)
    (hf4 : Fr [] w3 w4) (ho : Own w4 5 (.slice (some ⟨g, 0, none⟩) 0 cap) []) (hc : 1024 ≤ cap) (hg : v.ownBlock = some g ∨ w3.heap.size ≤ g) :
    Lp A (w4.setCell ⟨q, 0, none⟩ (.slice (some ⟨g, 0, none⟩) 1024 cap)) ea o bp b r q g cap sv sz S 0 pv' none bv bl := by
  have hM0 := hM
  obtain ⟨⟨c2, c3, c4, hOp⟩, ⟨⟨u0, hbp0⟩, _⟩, hBf, hAp⟩ := hM
  obtain ⟨⟨u, hbp⟩, hO⟩ := hp
  obtain ⟨lr, hb0⟩ := hBf.1
  have hO : OwnC w3 87 1 pv' 0 [] := hO
  have hin := got_in (w := w2) (bp := bp) (b := b) (pv := pv) (bv := bv) hm (Nat.le_refl _)
  have hAq : ∀ s, s ∈ q :: v.ownBlock.toList → A.heap.size ≤ s := fun s hs => by
    rcases hin s hs with k | k
    · exact hmb s k
    · exact Nat.le_trans hf.size k
  have hAg : A.heap.size ≤ g := by
    rcases hg with e | k
    · exact hAq g (by simp [e])
    · exact Nat.le_trans hf.size (Nat.le_trans hf3.size k)
  have hAbp := hmb bp (by simp [mblk])
  -- the rows at w4
  have hob : o ≠ bp := ne_tag hOp hbp0 (by decide)
  have hbb : b ≠ bp := ne_tag hb0 hbp0 (by decide)
  have ho4 := hf4.blk (hf3.blk hOp (by simp; exact hob)) List.not_mem_nil
  have hq4 := hf4.blk hq List.not_mem_nil
  have hbp4 := hf4.blk hbp List.not_mem_nil
  have hb4 := hf4.blk (hf3.blk hb0 (by simp; exact hbb)) List.not_mem_nil
  have hrb : r ≠ bp := ne_tag hr hbp0 (by decide)
  have hr4 := hf4.blk (hf3.blk hr (by simp; exact hrb)) List.not_mem_nil
  have hbvbp : ∀ k, bv.ownBlock = some k → k ∉ [bp] := fun k hk => by
    obtain ⟨c, x, h⟩ := bufW_tag hBf hk
    simp; exact ne_tag h hbp0 (by decide)
  have hB4 : BufW w4 b bv bl := (hBf.fr hf3 (by simp; exact hbb) hbvbp).fr hf4 List.not_mem_nil (fun _ _ => List.not_mem_nil)
  have hO4 : OwnC w4 87 1 pv' 0 [] := hO.fr hf4 (fun _ _ => List.not_mem_nil)
  have hfq : Fr [q] w4 (w4.setCell ⟨q, 0, none⟩ (.slice (some ⟨g, 0, none⟩) 1024 cap)) := (Fr.refl [q] w4).setCell (.inl (by simp)) _
  have hpvq : ∀ k, pv'.ownBlock = some k → k ∉ [q] := fun k hk => by
    obtain ⟨c, x, h⟩ := ownC_tag hO4 hk
    simp; exact ne_tag h hq4 (by decide)
  have hbvq : ∀ k, bv.ownBlock = some k → k ∉ [q] := fun k hk => by
    obtain ⟨c, x, h⟩ := bufW_tag hB4 hk
    simp; exact ne_tag h hq4 (by decide)
  obtain ⟨cg, xg, hgr⟩ := own_tag ho (g := g) rfl
  have hgq : g ≠ q := ne_tag hgr hq4 (by decide)
  have hgbv : bv.ownBlock ≠ some g := fun e => by
    obtain ⟨c, x, h⟩ := bufW_tag hBf e
    have hlt := (Array.getElem?_eq_some_iff.1 h).1
    rcases hg with e' | k
    · cases po with
      | none => have := hm.2 g e'; omega
      | some p =>
        obtain ⟨q0, v0⟩ := p
        obtain ⟨rfl, rfl⟩ := hm
        exact hAp _ _ rfl g e' e
    · have := hf3.size; omega
  refine ⟨?_, hG, ⟨⟨c2, c3, c4, hfq.blk ho4 ?_⟩, ⟨⟨u, hfq.blk hbp4 ?_⟩, hO4.fr hfq hpvq⟩, hB4.fr hfq ?_ hbvq, fun _ _ h => by cases h⟩, ?_, hfq.blk hr4 ?_, ?_, ?_, ?_, hc, hbr, hAq q (by simp), hAg, ?_, ?_⟩
  · exact ((hf.step hf3 (fun t ht => .inr (by simp at ht; subst ht; exact hAbp))).trans hf4).step hfq (fun t ht => .inr (by simp at ht; subst ht; exact hAq _ (by simp)))
  · simp; exact ne_tag ho4 hq4 (by decide)
  · simp; exact ne_tag hbp4 hq4 (by decide)
  · simp; exact ne_tag hb4 hq4 (by decide)
  · intro s hs
    unfold mblk at hs
    rw [hpb] at hs
    simp only [List.mem_cons, List.mem_append, List.not_mem_nil, or_false] at hs
    refine hmb s ?_
    unfold mblk
    simp only [List.mem_cons, List.mem_append]
    rcases hs with h | h | h
    · exact .inl h
    · exact .inr (.inl h)
    · exact .inr (.inr (.inl h))
  · simp; exact ne_tag hr4 hq4 (by decide)
  · exact ((hsz.fr hf3 (fun s hs => by simp at hs; subst hs; exact hAbp)).fr hf4 (fun _ h => by cases h)).fr hfq (fun s hs => by simp at hs; subst hs; exact hAq _ (by simp))
  · have := heap_setCell_same w4 q 0 _ 42 (.slice (some ⟨g, 0, none⟩) 1024 cap) hq4
    simpa using this
  · exact ho.fr hfq (fun k hk => by simp [Value.ownBlock] at hk; subst hk; simp; exact hgq)
  · intro hh
    unfold mblk at hh
    simp only [List.mem_cons, List.mem_append, List.not_mem_nil, or_false] at hh
    rcases hh with h | h | h | h
    · exact ne_tag hq4 hbp4 (by decide) h
    · exact ne_tag hq4 hb4 (by decide) h
    · exact hpvq q (by simpa using h) (by simp)
    · exact hbvq q (by simpa using h) (by simp)
  · intro hh
    unfold mblk at hh
    simp only [List.mem_cons, List.mem_append, List.not_mem_nil, or_false] at hh
    rcases hh with h | h | h | h
    · exact ne_tag hgr hbp4 (by decide) h
    · exact ne_tag hgr hb4 (by decide) h
    · obtain ⟨c, x, hk⟩ := ownC_tag hO4 (g := g) (by simpa using h)
      exact ne_tag hgr hk (by decide) rfl
    · exact hgbv (by simpa using h)
def LpR (A W : World) (ea : Addr) (o bp b r q g cap : Nat) (sv : Value) (sz : List Int) (l0 bl0 : List UInt8) (K : Nat) : Prop :=
  ∃ (S : ByteArray) (a : Nat) (pv : Value) (po : Option (Nat × Value)) (bv : Value) (bl rest : List UInt8) (dn : List (List UInt8)),
    Lp A W ea o bp b r q g cap sv sz S a pv po bv bl ∧ S.data.toList = rest ∧ bl = bl0 ++ (dn.map chunkE).flatten ∧ (∀ cs, Run sz a rest cs → Run sz 0 l0 (dn ++ cs)) ∧ bl.length + 40 * rest.length ≤ K ∧ a + mRd sz a rest.length ≤ K ∧ rest.length ≤ 1000000
/-- A round that skips. -/
theorem lpr_skip {A W' : World} {ea : Addr} {o bp b r q g cap : Nat} {sv : Value} {sz : List Int} {a : Nat} {bl rest l0 bl0 : List UInt8} {dn : List (List UInt8)} {K : Nat} {S' : ByteArray} {pv' bv' : Value} {po' : Option (Nat × Value)} {bl' : List UInt8}
    (hne : rest ≠ []) (he : sz = [] ∨ anyPos sz = true) (hbl : bl = bl0 ++ (dn.map chunkE).flatten) (hrun : ∀ cs, Run sz a rest cs → Run sz 0 l0 (dn ++ cs)) (hk1 : bl.length + 40 * rest.length ≤ K) (hk2 : a + mRd sz a rest.length ≤ K) (hk3 : rest.length ≤ 1000000)
    (hS' : S'.data.toList = rest.drop (stepN sz a)) (hL : Lp A W' ea o bp b r q g cap sv sz S' (nextA sz a) pv' po' bv' bl')
    (hb : bl' = bl ++ if rest.take (stepN sz a) = [] then [] else chunkE (rest.take (stepN sz a))) :
    LpR A W' ea o bp b r q g cap sv sz l0 bl0 K ∧ mRow sz r W' < mRd sz a rest.length := by
  have hm := round_meas (a := a) hne he
  have hsz : S'.size = (rest.drop (stepN sz a)).length := by rw [Lib.size_eq, hS']
  have hn : nextA sz a ≤ a + 1 := by unfold nextA; split <;> omega
  refine ⟨?_, by rw [mRow_eq hL.rd, hsz]; exact hm⟩
  have hdl : (rest.drop (stepN sz a)).length ≤ rest.length := by rw [List.length_drop]; omega
  rcases round_run (sz := sz) (a := a) hne with ⟨hc, hr⟩ | ⟨hc, hd, hr⟩
  · rw [if_neg hc] at hb
    have hcl : (rest.take (stepN sz a)).length + (rest.drop (stepN sz a)).length = rest.length := by rw [← List.length_append, List.take_append_drop]
    have hc1 := List.length_pos_iff.2 hc
    have hce := chunkE_len (c := rest.take (stepN sz a)) (by omega)
    refine ⟨S', nextA sz a, pv', po', bv', bl', rest.drop (stepN sz a), dn ++ [rest.take (stepN sz a)], hL, hS', ?_, fun cs h => ?_, ?_, by omega, by omega⟩
    · rw [hb, hbl]
      simp
    · rw [List.append_assoc]
      exact hrun _ (hr cs h)
    · rw [hb, List.length_append]
      omega
  · rw [if_pos hc, List.append_nil] at hb
    rw [hd] at hS' hm
    exact ⟨S', nextA sz a, pv', po', bv', bl', rest, dn, hL, hS', by rw [hb, hbl], fun cs h => hrun cs (hr cs h), by rw [hb]; exact hk1, by omega, hk3⟩
theorem Lp.keep_read {A W W' : World} {ea : Addr} {o bp b r q g cap : Nat} {sv : Value} {sz : List Int} {S : ByteArray} {a : Nat} {pv bv : Value} {po : Option (Nat × Value)} {bl : List UInt8} (h : Lp A W ea o bp b r q g cap sv sz S a pv po bv bl) {l : List UInt8} {e : Ending} (hr : RdQ W r g cap sv sz a l e W') {k : Nat} {c : Array Value} {t : TypeId} {x : Nat × Nat} (hk : W.heap[k]? = some (.cells c t x)) (h1 : t ≠ 82) (h2 : t ≠ 5) : W'.heap[k]? = some (.cells c t x) := by
  obtain ⟨S', he, hS, hf, hrw, ho⟩ := hr
  obtain ⟨cg, xg, hg⟩ := own_tag h.own (g := g) rfl
  exact hf.blk hk (by simp; exact ⟨ne_tag hk h.rd h1, ne_tag hk hg h2⟩)
theorem Lp.keep_wrote {A W W' : World} {ea : Addr} {o bp b r q g cap : Nat} {sv : Value} {sz : List Int} {S : ByteArray} {a : Nat} {pv bv : Value} {po : Option (Nat × Value)} {bl : List UInt8} (h : Lp A W ea o bp b r q g cap sv sz S a pv po bv bl) {out : List UInt8} (hq : MQ W o bp b pv po bv bl out W') {k : Nat} {c : Array Value} {t : TypeId} {x : Nat × Nat} (hk : W.heap[k]? = some (.cells c t x)) (a1 : t ≠ 94) (a2 : t ≠ 174) (a3 : t ≠ 46) (a4 : t ≠ 87) (a5 : t ≠ 5) (a6 : t ≠ 42) : W'.heap[k]? = some (.cells c t x) := by
  refine hq.1.blk hk (fun hm => ?_)
  obtain ⟨c', t', x', h1, h2⟩ := h.mach.tag k (List.mem_cons_of_mem _ hm)
  exact ne_tag hk h1 (by rcases h2 with rfl | rfl | rfl | rfl | rfl | rfl <;> assumption) rfl
theorem Lp.put_pre {A W : World} {ea : Addr} {o bp b r q g cap : Nat} {sv : Value} {sz : List Int} {S : ByteArray} {a : Nat} {pv bv : Value} {po : Option (Nat × Value)} {bl : List UInt8} (h : Lp A W ea o bp b r q g cap sv sz S a pv po bv bl) : ∃ (u : Int) (n : Nat) (cs : List Value), W.heap[bp]? = some (.cells #[.int .i64 u, .int .i64 10000000, pv] 174 (0, 0)) ∧ OwnC W 87 1 pv n cs ∧ n ≤ 1000 ∧ q ≠ bp ∧ pv.ownBlock ≠ some bp ∧ pv.ownBlock ≠ some q := by
  obtain ⟨_, ⟨⟨u, hu⟩, hp⟩, _, _⟩ := h.mach
  have hO : ∃ n cs, OwnC W 87 1 pv n cs ∧ n ≤ 1000 := by
    cases po with
    | none => exact ⟨_, _, hp, by omega⟩
    | some p => exact ⟨_, _, hp.1, by omega⟩
  obtain ⟨n, cs, hO, hn⟩ := hO
  refine ⟨u, n, cs, hu, hO, hn, ne_tag h.rq hu (by decide), fun e => ?_, fun e => ?_⟩
  · obtain ⟨c, x, hk⟩ := ownC_tag hO e
    exact ne_tag hk hu (by decide) rfl
  · obtain ⟨c, x, hk⟩ := ownC_tag hO e
    exact ne_tag hk h.rq (by decide) rfl
theorem Lp.put_post {A W W' : World} {ea : Addr} {o bp b r q g cap : Nat} {sv : Value} {sz : List Int} {S : ByteArray} {a : Nat} {pv bv : Value} {po : Option (Nat × Value)} {bl : List UInt8} (h : Lp A W ea o bp b r q g cap sv sz S a pv po bv bl) {n c : Nat} {cs : List Value} (hO : OwnC W 87 1 pv n cs) (hp : PutQ W bp q g c pv n cs W') : Fr [] A W' ∧ BufW W' b bv bl := by
  obtain ⟨_, ⟨⟨u, hu⟩, _⟩, hB, _⟩ := h.mach
  obtain ⟨lr, hb⟩ := hB.1
  have hpv : ∀ s, s ∈ pv.ownBlock.toList → ∃ c x, W.heap[s]? = some (.cells c 87 x) := fun s hs => ownC_tag hO (by simpa using hs)
  have hn : ∀ {k : Nat} {c : Array Value} {t : TypeId} {x : Nat × Nat}, W.heap[k]? = some (.cells c t x) → t ≠ 174 → t ≠ 42 → t ≠ 87 → k ∉ bp :: q :: pv.ownBlock.toList := by
    intro k c t x hk a1 a2 a3 hm
    rcases List.mem_cons.1 hm with e | hm
    · exact ne_tag hk hu a1 e
    · rcases List.mem_cons.1 hm with e | hm
      · exact ne_tag hk h.rq a2 e
      · obtain ⟨c', x', h'⟩ := hpv k hm
        exact ne_tag hk h' a3 rfl
  refine ⟨h.fr.step hp.1 (fun t ht => .inr ?_), hB.fr hp.1 (hn hb (by decide) (by decide) (by decide)) (fun k hk => ?_)⟩
  · rcases List.mem_cons.1 ht with rfl | ht
    · exact h.mb _ (by simp [mblk])
    · rcases List.mem_cons.1 ht with rfl | ht
      · exact h.bq
      · exact h.mb t (by unfold mblk; simp only [List.mem_cons, List.mem_append]; exact .inr (.inr (.inl (.inl ht))))
  · obtain ⟨c', x', h'⟩ := bufW_tag hB hk
    exact hn h' (by decide) (by decide) (by decide)
end Go.Proofs.YtpkkgngpjeoffaaGreatDoor
