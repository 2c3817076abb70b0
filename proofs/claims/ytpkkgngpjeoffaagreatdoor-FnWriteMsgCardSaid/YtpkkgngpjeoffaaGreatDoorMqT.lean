/- PROVED HERE: a part of round r2's proofs (text MqT): lemmas and walks that later texts use. CONDITIONS: those written ahead of each theorem. -/
import Derived.Test.YtpkkgngpjeoffaaGreatDoorOptT
import Derived.Test.YtpkkgngpjeoffaaGreatDoorBufU
import Derived.Test.YtpkkgngpjeoffaaGreatDoorGlR
import Derived.Deep.RegionLaw
import Derived.Deep.RegionHeld3
import Derived.Deep.CutRange
import Derived.Lib.ItoaLen
namespace Go.Proofs.YtpkkgngpjeoffaaGreatDoor
open Go.RowKit

theorem ne_tag {w : World} {a b : Nat} {c d : Array Value} {t u : TypeId} {x y : Nat × Nat} (h : w.heap[a]? = some (.cells c t x)) (k : w.heap[b]? = some (.cells d u y)) (hne : t ≠ u) : a ≠ b := by
  rintro rfl
  rw [h] at k
  cases k
  exact hne rfl
/-- The machine of a write: the options o, their pool bp, the buffer b that holds bl. -/
structure Mach (w : World) (o bp b : Nat) (pv : Value) (po : Option (Nat × Value)) (bv : Value) (bl : List UInt8) : Prop where
  opts : OptsS w o bp
  pool : PoolS w bp pv po
  buf : BufW w b bv bl
  apart : ∀ q v, po = some (q, v) → ∀ g, v.ownBlock = some g → bv.ownBlock ≠ some g
/-- The blocks that a write turns. -/
def mblk (bp b : Nat) (pv : Value) (po : Option (Nat × Value)) (bv : Value) : List Nat :=
  bp :: b :: (pv.ownBlock.toList ++ bv.ownBlock.toList ++ match po with | none => [] | some (q, v) => q :: v.ownBlock.toList)
/-- What a write leaves: out behind what there was. -/
def MQ (w : World) (o bp b : Nat) (pv : Value) (po : Option (Nat × Value)) (bv : Value) (bl out : List UInt8) (w' : World) : Prop :=
  Fr (mblk bp b pv po bv) w w' ∧ ∃ pv' po' bv', Mach w' o bp b pv' po' bv' (bl ++ out) ∧ ∀ s, s ∈ mblk bp b pv' po' bv' → s ∈ mblk bp b pv po bv ∨ w.heap.size ≤ s

theorem delim_any (w : World) : Calls Tryz.prog 71 #[] w fun e w' => ∃ g, e = .returned (.slice (some ⟨g, 0, none⟩) 2 2) ∧ Fr [] w w' ∧ Own w' 5 (.slice (some ⟨g, 0, none⟩) 2 2) [13, 10] ∧ w.heap.size ≤ g := by
  go_enter Tryz.func71, Tryz.ntmps71
  go_wp2_with fail
  go_ret
  exact ⟨_, rfl, (Fr.refl [] w).alloc _, .inr ⟨_, _, rfl, _, _, heap_alloc_new _ _, fun j _ h => by simp at h, by simp, by simp, by decide, by simp [bvs, bv]⟩, Nat.le_refl _⟩
theorem src_own {w : World} {v : Value} {l : List UInt8} (h : Own w 5 v l) : Src Tryz.prog 1 42 v l.length (bvs l) w := by
  rcases h with ⟨rfl, rfl⟩ | ⟨g, cap, rfl, hr⟩
  · exact Src.ofNil w u42 0
  · exact srcRow w l hr (fun _ _ => rfl) (Nat.le_refl _)
/-- append of bytes at a step of a region that draws. -/
theorem stepAppB (w : World) {ops : Array Oper} {o : Oper} {a : Act} {K : Act → World → Prop} {Q : Exit → Act → World → Prop} {E : Prop}
    (hg : o.guard = none) (s x : Operand) (hop : o.op = Op.call { callee := Callee.builtin Builtin.append, args := #[s, x], argTypes := #[42, 42] })
    (v : Value) (l m : List UInt8) (xv : Value) (hv : a.eval s = v) (hx : a.eval x = xv) (hown : Own w 5 v l) (hxo : Own w 5 xv m) (hlen : l.length + m.length ≤ 70368744177664)
    (hK : ∀ v' w', Own w' 5 v' (l ++ m) → Stp w w' v v' → K (a.put o.dst v') w') :
    if Region.wanted o (yielded ops a.tmps) = true then Oper.wp Tryz.prog o a w K Q else E := by
  have hw : Region.wanted o (yielded ops a.tmps) = true := by simp [Region.wanted, hg]
  rw [if_pos hw]
  obtain ⟨i5, hi, hz0, hz1, hz2⟩ := info_parts Tryz.info5
  obtain ⟨v', w', hrun, r1, r2, r3⟩ := run_append_b (P := Tryz.prog) w 42 42 o.type 5 i5 _ u42 hi hz0 hz1 hz2 rfl v l m xv hown (src_own hxo) hlen
  unfold Oper.wp
  simp [execOp, hop, resolve, invoke, builtin, hv, hx, hrun, Result.andThen]
  exact hK v' w' r1 ⟨r2, r3.imp_right fun h => ⟨_, h, Nat.le_refl _⟩⟩
theorem own_shape {w : World} {e : TypeId} {v : Value} {l : List UInt8} (h : Own w e v l) : ∃ a c, v = .slice a l.length c := by
  rcases h with ⟨rfl, rfl⟩ | ⟨g, cap, rfl, _⟩
  · exact ⟨_, _, rfl⟩
  · exact ⟨_, _, rfl⟩
theorem own_tag {w : World} {e : TypeId} {v : Value} {l : List UInt8} (h : Own w e v l) {g : Nat} (hg : v.ownBlock = some g) : ∃ c x, w.heap[g]? = some (.cells c e x) := by
  rcases h with ⟨rfl, _⟩ | ⟨k, cap, rfl, cur, fr, hr, _⟩
  · simp [Value.ownBlock] at hg
  · simp [Value.ownBlock] at hg; subst hg; exact ⟨_, _, hr⟩
/-- The scratch slice: block q holds vk, with the bytes lk (a: the world ahead, v: what it was there). -/
structure Sc (a W : World) (q : Nat) (v vk : Value) (lk : List UInt8) : Prop where
  fr : Fr (q :: v.ownBlock.toList) a W
  row : W.heap[q]? = some (.cells #[vk] 42 (0, 0))
  own : Own W 5 vk lk
  blk : vk.ownBlock = v.ownBlock ∨ ∃ g, vk.ownBlock = some g ∧ a.heap.size ≤ g
theorem Sc.ne {a W : World} {q : Nat} {v vk : Value} {lk : List UInt8} (h : Sc a W q v vk lk) : vk.ownBlock ≠ some q := by
  intro e
  obtain ⟨c, x, hr⟩ := own_tag h.own e
  exact ne_tag hr h.row (by decide) rfl
theorem Sc.base {a W : World} {q B : Nat} {v vk : Value} {lk : List UInt8} (h : Sc a W q v vk lk) (hv : ∀ g, v.ownBlock = some g → B ≤ g) (ha : B ≤ a.heap.size) : ∀ g, vk.ownBlock = some g → B ≤ g := by
  intro g hg
  rcases h.blk with e | ⟨k, e, hk⟩
  · exact hv g (by rw [← e]; exact hg)
  · rw [e] at hg
    have : k = g := by simpa using hg
    omega
/-- Nothing of the scratch turned. -/
theorem Sc.fr0 {a W W' : World} {q : Nat} {v vk : Value} {lk : List UInt8} (h : Sc a W q v vk lk) (f : Fr [] W W') : Sc a W' q v vk lk :=
  ⟨h.fr.trans (f.sub (by simp)), f.blk h.row List.not_mem_nil, h.own.fr f (fun _ _ => List.not_mem_nil), h.blk⟩
/-- Bytes appended, the slice stored. -/
theorem Sc.app {a W W' : World} {q : Nat} {v vk vk' : Value} {lk lk' : List UInt8} (h : Sc a W q v vk lk) (hs : Stp W W' vk vk') (ho : Own W' 5 vk' lk') : Sc a (W'.setCell ⟨q, 0, none⟩ vk') q v vk' lk' := by
  have hrow : W'.heap[q]? = some (.cells #[vk] 42 (0, 0)) := hs.1.blk h.row (fun hm => h.ne (by simpa using hm))
  have hb : vk'.ownBlock = v.ownBlock ∨ ∃ g, vk'.ownBlock = some g ∧ a.heap.size ≤ g := by
    rcases hs.2 with e | ⟨g, e, hg⟩
    · rw [e]; exact h.blk
    · exact .inr ⟨g, e, Nat.le_trans h.fr.size hg⟩
  have hne : vk'.ownBlock ≠ some q := by
    intro e
    obtain ⟨c, x, hr⟩ := own_tag ho e
    exact ne_tag hr hrow (by decide) rfl
  refine ⟨?_, heap_setCell_same W' q 0 _ 42 _ hrow, ho.fr ((Fr.refl [q] W').setCell (.inl (by simp)) _) (fun g hg => by simp; intro e; exact hne (by rw [hg, e])), hb⟩
  refine (h.fr.step hs.1 (fun t ht => ?_)).setCell (.inl (by simp)) _
  rcases h.blk with e | ⟨g, e, hg⟩
  · rw [e] at ht; exact .inl (List.mem_cons_of_mem _ ht)
  · rw [e] at ht
    have : t = g := by simpa using ht
    exact .inr (by omega)
/-- Where the ways meet behind a region: the slice that was stored. -/
def CutQ (a : World) (q : Nat) (v : Value) (l : List UInt8) (x : Value) (W : World) : Prop := ∃ y c, x = .slice y l.length c ∧ Sc a W q v x l
theorem WrQ.pre {w w1 w' : World} {b : Nat} {v : Value} {l m : List UInt8} (f : Fr [] w w1) (h : WrQ w1 b v l m w') : WrQ w b v l m w' := by
  obtain ⟨h1, v', h2, h3⟩ := h
  exact ⟨(f.sub (by simp)).trans h1, v', h2, h3.imp_right fun ⟨g, e, hg⟩ => ⟨g, e, Nat.le_trans f.size hg⟩⟩
theorem ownC_tag {w : World} {e : TypeId} {sz : Nat} {v : Value} {n : Nat} {cs : List Value} (h : OwnC w e sz v n cs) {g : Nat} (hg : v.ownBlock = some g) : ∃ c x, w.heap[g]? = some (.cells c e x) := by
  rcases h.2.2 with ⟨rfl, _⟩ | ⟨k, cap, rfl, cur, fr, hr, _⟩
  · simp [Value.ownBlock] at hg
  · simp [Value.ownBlock] at hg; subst hg; exact ⟨_, _, hr⟩
theorem bufW_tag {w : World} {b : Nat} {v : Value} {l : List UInt8} (h : BufW w b v l) {g : Nat} (hg : v.ownBlock = some g) : ∃ c x, w.heap[g]? = some (.cells c 5 x) := by
  rcases h.2 with ⟨rfl, _⟩ | ⟨k, cap, cur, rfl, hr, _⟩
  · simp [Value.ownBlock] at hg
  · simp [Value.ownBlock] at hg; subst hg; exact ⟨_, _, hr⟩
/-- A block of another kind than 5 and 42 is none of the scratch. -/
theorem not_sc {w : World} {q : Nat} {v : Value} {l : List UInt8} (hq : ∃ c x, w.heap[q]? = some (.cells c 42 x)) (hv : Own w 5 v l) {k : Nat} {c : Array Value} {t : TypeId} {x : Nat × Nat} (hk : w.heap[k]? = some (.cells c t x)) (h5 : t ≠ 5) (h42 : t ≠ 42) : k ∉ q :: v.ownBlock.toList := by
  intro hm
  rcases List.mem_cons.1 hm with rfl | hm
  · obtain ⟨c', x', h⟩ := hq
    exact ne_tag hk h h42 rfl
  · obtain ⟨c', x', h⟩ := own_tag hv (g := k) (by simpa using hm)
    exact ne_tag hk h h5 rfl
theorem own_cut {w : World} {g n c : Nat} {l : List UInt8} (h : Own w 5 (.slice (some ⟨g, 0, none⟩) n c) l) : Own w 5 (.slice (some ⟨g, 0, none⟩) 0 c) [] := by
  rcases h with ⟨e, _⟩ | ⟨k, cap, e, cur, fr, h1, h2, h3, h4, h5, h6⟩
  · cases e
  · cases e
    exact .inr ⟨_, _, rfl, cur, fr, h1, h2, h3, by simp, h5, by simp [bvs]⟩
/-- The match of what get handed back. -/
def GotQ (w : World) (po : Option (Nat × Value)) (q : Nat) (v : Value) : Prop := match po with | none => w.heap.size ≤ q ∧ ∀ g, v.ownBlock = some g → w.heap.size ≤ g | some (q0, v0) => q = q0 ∧ v = v0
theorem got_in {w w1 : World} {bp b : Nat} {pv bv v : Value} {po : Option (Nat × Value)} {q : Nat} (h : GotQ w1 po q v) (hs : w.heap.size ≤ w1.heap.size) : ∀ s, s ∈ q :: v.ownBlock.toList → s ∈ mblk bp b pv po bv ∨ w.heap.size ≤ s := by
  intro s hm
  cases po with
  | none =>
    obtain ⟨h1, h2⟩ := h
    rcases List.mem_cons.1 hm with rfl | hm
    · exact .inr (Nat.le_trans hs h1)
    · exact .inr (Nat.le_trans hs (h2 s (by simpa using hm)))
  | some p =>
    obtain ⟨q0, v0⟩ := p
    obtain ⟨rfl, rfl⟩ := h
    refine .inl ?_
    unfold mblk
    simp only [List.mem_cons, List.mem_append] at hm ⊢
    exact .inr (.inr (.inr hm))
theorem bv_apart {w w1 w2 : World} {bp b q : Nat} {bv v : Value} {bl : List UInt8} {po : Option (Nat × Value)} (hBf : BufW w b bv bl) (hAp : ∀ q v, po = some (q, v) → ∀ g, v.ownBlock = some g → bv.ownBlock ≠ some g) (hf1 : Fr [] w w1) (hf2 : Fr [bp] w1 w2) (hbp : ∃ c x, w.heap[bp]? = some (.cells c 174 x)) (hq2 : ∃ c x, w2.heap[q]? = some (.cells c 42 x)) (hm : GotQ w1 po q v) : ∀ g, bv.ownBlock = some g → g ∉ q :: v.ownBlock.toList := by
  intro g hg hmm
  obtain ⟨c, x, hr⟩ := bufW_tag hBf hg
  obtain ⟨cb, xb, hrb⟩ := hbp
  have hr2 := hf2.blk (hf1.blk hr List.not_mem_nil) (by simp; exact fun e => ne_tag hr hrb (by decide) e)
  rcases List.mem_cons.1 hmm with rfl | hmm
  · obtain ⟨c', x', h⟩ := hq2
    exact ne_tag hr2 h (by decide) rfl
  · have hv : v.ownBlock = some g := by simpa using hmm
    cases po with
    | none =>
      have := hm.2 g hv
      have hlt := (Array.getElem?_eq_some_iff.1 hr).1
      have := hf1.size
      omega
    | some p =>
      obtain ⟨q0, v0⟩ := p
      obtain ⟨rfl, rfl⟩ := hm
      exact hAp _ _ rfl g hv hg
/-- A block of another kind than those of the pool's put. -/
theorem not_put {w : World} {bp q k : Nat} {pv : Value} {n : Nat} {cs : List Value} (hb : ∃ c x, w.heap[bp]? = some (.cells c 174 x)) (hq : ∃ c x, w.heap[q]? = some (.cells c 42 x)) (hp : OwnC w 87 1 pv n cs) {c : Array Value} {t : TypeId} {x : Nat × Nat} (hk : w.heap[k]? = some (.cells c t x)) (h1 : t ≠ 174) (h2 : t ≠ 42) (h3 : t ≠ 87) : k ∉ bp :: q :: pv.ownBlock.toList := by
  intro hm
  rcases List.mem_cons.1 hm with rfl | hm
  · obtain ⟨c', x', h⟩ := hb
    exact ne_tag hk h h1 rfl
  · rcases List.mem_cons.1 hm with rfl | hm
    · obtain ⟨c', x', h⟩ := hq
      exact ne_tag hk h h2 rfl
    · obtain ⟨c', x', h⟩ := ownC_tag hp (g := k) (by simpa using hm)
      exact ne_tag hk h h3 rfl
/-- A block of another kind than those of the buffer. -/
theorem not_buf {w : World} {b k : Nat} {bv : Value} {bl : List UInt8} (hb : BufW w b bv bl) {c : Array Value} {t : TypeId} {x : Nat × Nat} (hk : w.heap[k]? = some (.cells c t x)) (h1 : t ≠ 46) (h2 : t ≠ 5) : k ∉ b :: bv.ownBlock.toList := by
  intro hm
  rcases List.mem_cons.1 hm with rfl | hm
  · obtain ⟨lr, h⟩ := hb.1
    exact ne_tag hk h h1 rfl
  · obtain ⟨c', x', h⟩ := bufW_tag hb (g := k) (by simpa using hm)
    exact ne_tag hk h h2 rfl
set_option maxHeartbeats 1000000 in
/-- All that a write of the scratch slice comes to. -/
theorem mq_end {w w1 w2 w14 w15 w' : World} {o bp b q g n ck : Nat} {pv pv' bv v : Value} {po : Option (Nat × Value)} {bl lk : List UInt8}
    (hM : Mach w o bp b pv po bv bl) (hf1 : Fr [] w w1) (hf2 : Fr [bp] w1 w2) (hq2 : w2.heap[q]? = some (.cells #[v] 42 (0, 0))) (hv2 : Own w2 5 v []) (hp2 : PoolS w2 bp pv' none) (hpb : pv'.ownBlock = pv.ownBlock) (hm2 : GotQ w1 po q v)
    (hS : Sc w2 w14 q v (.slice (some ⟨g, 0, none⟩) n ck) lk) (hW : WrQ w14 b bv bl lk w15) (hP : PutQ w15 bp q g ck pv' 0 [] w') : MQ w o bp b pv po bv bl lk w' := by
  obtain ⟨⟨c2, c3, c4, hOp⟩, hPl, hBf, hAp⟩ := hM
  obtain ⟨hfP, hcase⟩ := hP
  obtain ⟨hfW, bv', hB', hbd⟩ := hW
  obtain ⟨u0, hbp0⟩ := hPl.1
  obtain ⟨u2, hbp2⟩ := hp2.1
  obtain ⟨lr0, hb0⟩ := hBf.1
  have hO2 : OwnC w2 87 1 pv' 0 [] := hp2.2
  -- at w2
  have hb2 := hf2.blk (hf1.blk hb0 List.not_mem_nil) (by simp; exact ne_tag hb0 hbp0 (by decide))
  have ho2 := hf2.blk (hf1.blk hOp List.not_mem_nil) (by simp; exact ne_tag hOp hbp0 (by decide))
  have hap2 := bv_apart hBf hAp hf1 hf2 ⟨_, _, hbp0⟩ ⟨_, _, hq2⟩ hm2
  have hbvbp : ∀ k, bv.ownBlock = some k → k ∉ [bp] := by
    intro k hk
    obtain ⟨c, x, hr⟩ := bufW_tag hBf hk
    simp
    exact ne_tag hr hbp0 (by decide)
  have hBf2 : BufW w2 b bv bl := (hBf.fr hf1 List.not_mem_nil (fun _ _ => List.not_mem_nil)).fr hf2 (by simp; exact ne_tag hb0 hbp0 (by decide)) hbvbp
  -- at w14
  have nb := not_sc ⟨_, _, hq2⟩ hv2 hb2 (by decide) (by decide)
  have no := not_sc ⟨_, _, hq2⟩ hv2 ho2 (by decide) (by decide)
  have np := not_sc ⟨_, _, hq2⟩ hv2 hbp2 (by decide) (by decide)
  have ho14 := hS.fr.blk ho2 no
  have hbp14 := hS.fr.blk hbp2 np
  have hBf14 := hBf2.fr hS.fr nb hap2
  have hpv : ∀ k, pv'.ownBlock = some k → k ∉ q :: v.ownBlock.toList := by
    intro k hk
    obtain ⟨c, x, hr⟩ := ownC_tag hO2 hk
    exact not_sc ⟨_, _, hq2⟩ hv2 hr (by decide) (by decide)
  have hO14 := hO2.fr hS.fr hpv
  -- the scratch's bytes and the buffer's
  have hgb : g ∉ b :: bv.ownBlock.toList := by
    obtain ⟨cg, xg, hg14⟩ := own_tag hS.own (g := g) rfl
    intro hm
    rcases List.mem_cons.1 hm with rfl | hm
    · obtain ⟨lr, h⟩ := hBf14.1
      exact ne_tag hg14 h (by decide) rfl
    · have hbg : bv.ownBlock = some g := by simpa using hm
      rcases hS.blk with e | ⟨k, e, hk⟩
      · have e' : v.ownBlock = some g := e.symm
        exact hap2 g hbg (by simp [e'])
      · have : g = k := by simpa [Value.ownBlock] using e
        obtain ⟨c, x, hr⟩ := bufW_tag hBf2 hbg
        have := (Array.getElem?_eq_some_iff.1 hr).1
        omega
  -- at w15
  have ho15 := hfW.blk ho14 (not_buf hBf14 ho14 (by decide) (by decide))
  have hbp15 := hfW.blk hbp14 (not_buf hBf14 hbp14 (by decide) (by decide))
  have hq15 := hfW.blk hS.row (not_buf hBf14 hS.row (by decide) (by decide))
  have hO15 : OwnC w15 87 1 pv' 0 [] := hO14.fr hfW (fun k hk => by obtain ⟨c, x, hr⟩ := ownC_tag hO14 hk; exact not_buf hBf14 hr (by decide) (by decide))
  have hown15 : Own w15 5 (.slice (some ⟨g, 0, none⟩) 0 ck) [] := (own_cut hS.own).fr hfW (fun k hk => by simp [Value.ownBlock] at hk; subst hk; exact hgb)
  -- at the end
  have ho' := hfP.blk ho15 (not_put ⟨_, _, hbp15⟩ ⟨_, _, hq15⟩ hO15 ho15 (by decide) (by decide) (by decide))
  have hB'' : BufW w' b bv' (bl ++ lk) := by
    obtain ⟨lr, hb15⟩ := hB'.1
    exact hB'.fr hfP (not_put ⟨_, _, hbp15⟩ ⟨_, _, hq15⟩ hO15 hb15 (by decide) (by decide) (by decide)) (fun k hk => by obtain ⟨c, x, hr⟩ := bufW_tag hB' hk; exact not_put ⟨_, _, hbp15⟩ ⟨_, _, hq15⟩ hO15 hr (by decide) (by decide) (by decide))
  have hs1 := hf1.size
  have hs2 := hf2.size
  have hs14 := hS.fr.size
  have hin := got_in (bp := bp) (b := b) (pv := pv) (bv := bv) hm2 hs1
  have hbvin : ∀ s, s ∈ b :: bv.ownBlock.toList → s ∈ mblk bp b pv po bv := by
    intro s hs
    unfold mblk
    simp only [List.mem_cons, List.mem_append] at hs ⊢
    rcases hs with h | h
    · exact .inr (.inl h)
    · exact .inr (.inr (.inl (.inr h)))
  have hpvin : ∀ s, s ∈ pv'.ownBlock.toList → s ∈ mblk bp b pv po bv := by
    intro s hs
    rw [hpb] at hs
    unfold mblk
    simp only [List.mem_cons, List.mem_append] at hs ⊢
    exact .inr (.inr (.inl (.inl hs)))
  have hbpin : bp ∈ mblk bp b pv po bv := by unfold mblk; simp
  have hfr : Fr (mblk bp b pv po bv) w w' := by
    have a1 : Fr (mblk bp b pv po bv) w w2 := (hf1.sub (by simp)).trans (hf2.sub (fun s hs => by simp at hs; subst hs; exact .inl hbpin))
    have a2 := a1.step hS.fr hin
    have a3 := a2.step hfW (fun t ht => .inl (hbvin t ht))
    refine a3.step hfP (fun t ht => ?_)
    rcases List.mem_cons.1 ht with rfl | ht
    · exact .inl hbpin
    · rcases List.mem_cons.1 ht with rfl | ht
      · exact hin t (by simp)
      · exact .inl (hpvin t ht)
  have hbv' : ∀ s, s ∈ bv'.ownBlock.toList → s ∈ mblk bp b pv po bv ∨ w.heap.size ≤ s := by
    intro s hs
    rcases hbd with e | ⟨k, e, hk⟩
    · rw [e] at hs; exact .inl (hbvin s (List.mem_cons_of_mem _ hs))
    · rw [e] at hs
      have : s = k := by simpa using hs
      exact .inr (by omega)
  refine ⟨hfr, ?_⟩
  rcases hcase with ⟨u, hr, hO⟩ | ⟨u, pv'', hr, hq', hO, hpd⟩
  · refine ⟨pv', none, bv', ⟨⟨c2, c3, c4, ho'⟩, ⟨⟨u, hr⟩, hO⟩, hB'', fun _ _ h => by cases h⟩, fun s hs => ?_⟩
    unfold mblk at hs
    simp only [List.mem_cons, List.mem_append, List.not_mem_nil, or_false] at hs
    rcases hs with rfl | rfl | h | h
    · exact .inl hbpin
    · exact .inl (hbvin _ (by simp))
    · exact .inl (hpvin s h)
    · exact hbv' s h
  · refine ⟨pv'', some (q, .slice (some ⟨g, 0, none⟩) 0 ck), bv', ⟨⟨c2, c3, c4, ho'⟩, ⟨⟨u, hr⟩, by simpa using hO, hq', ?_⟩, hB'', ?_⟩, fun s hs => ?_⟩
    · refine hown15.fr hfP (fun k hk => ?_)
      simp [Value.ownBlock] at hk
      subst hk
      obtain ⟨c, x, hg⟩ := own_tag hown15 (g := g) rfl
      exact not_put ⟨_, _, hbp15⟩ ⟨_, _, hq15⟩ hO15 hg (by decide) (by decide) (by decide)
    · intro q' v' e k hk hbk
      cases e
      simp [Value.ownBlock] at hk
      subst hk
      rcases hbd with e | ⟨k, e, hk⟩
      · exact hgb (by rw [e] at hbk; simp [hbk])
      · rw [e] at hbk
        have : k = g := by simpa using hbk
        obtain ⟨c, x, hg⟩ := own_tag hS.own (g := g) rfl
        have := (Array.getElem?_eq_some_iff.1 hg).1
        omega
    · unfold mblk at hs
      simp only [List.mem_cons, List.mem_append] at hs
      rcases hs with rfl | rfl | (h | h) | (rfl | h)
      · exact .inl hbpin
      · exact .inl (hbvin _ (by simp))
      · rcases hpd with e | ⟨k, e, hk⟩
        · rw [e] at h; exact .inl (hpvin s h)
        · rw [e] at h
          have : s = k := by simpa using h
          have := hfW.size
          exact .inr (by omega)
      · exact hbv' s h
      · exact hin _ (by simp)
      · have hsg : s = g := by simpa [Value.ownBlock] using h
        subst hsg
        rcases hS.blk with e | ⟨k, e, hk⟩
        · have e' : v.ownBlock = some s := e.symm
          exact hin s (by simp [e'])
        · have : s = k := by simpa [Value.ownBlock] using e
          exact .inr (by omega)
set_option maxHeartbeats 1000000 in
/-- What put wants, behind the write. -/
theorem mq_put {w w1 w2 w14 w15 : World} {o bp b q : Nat} {pv pv' bv v vk : Value} {po : Option (Nat × Value)} {bl lk : List UInt8}
    (hM : Mach w o bp b pv po bv bl) (hf1 : Fr [] w w1) (hf2 : Fr [bp] w1 w2) (hq2 : w2.heap[q]? = some (.cells #[v] 42 (0, 0))) (hv2 : Own w2 5 v []) (hp2 : PoolS w2 bp pv' none) (hm2 : GotQ w1 po q v)
    (hS : Sc w2 w14 q v vk lk) (hW : WrQ w14 b bv bl lk w15) :
    ∃ u : Int, w15.heap[bp]? = some (.cells #[.int .i64 u, .int .i64 10000000, pv'] 174 (0, 0)) ∧ OwnC w15 87 1 pv' 0 [] ∧ w15.heap[q]? = some (.cells #[vk] 42 (0, 0)) ∧ q ≠ bp ∧ pv'.ownBlock ≠ some bp ∧ pv'.ownBlock ≠ some q := by
  obtain ⟨⟨c2, c3, c4, hOp⟩, hPl, hBf, hAp⟩ := hM
  obtain ⟨hfW, bv', hB', hbd⟩ := hW
  obtain ⟨u0, hbp0⟩ := hPl.1
  obtain ⟨u2, hbp2⟩ := hp2.1
  obtain ⟨lr0, hb0⟩ := hBf.1
  have hO2 : OwnC w2 87 1 pv' 0 [] := hp2.2
  -- at w2
  have hb2 := hf2.blk (hf1.blk hb0 List.not_mem_nil) (by simp; exact ne_tag hb0 hbp0 (by decide))
  have ho2 := hf2.blk (hf1.blk hOp List.not_mem_nil) (by simp; exact ne_tag hOp hbp0 (by decide))
  have hap2 := bv_apart hBf hAp hf1 hf2 ⟨_, _, hbp0⟩ ⟨_, _, hq2⟩ hm2
  have hbvbp : ∀ k, bv.ownBlock = some k → k ∉ [bp] := by
    intro k hk
    obtain ⟨c, x, hr⟩ := bufW_tag hBf hk
    simp
    exact ne_tag hr hbp0 (by decide)
  have hBf2 : BufW w2 b bv bl := (hBf.fr hf1 List.not_mem_nil (fun _ _ => List.not_mem_nil)).fr hf2 (by simp; exact ne_tag hb0 hbp0 (by decide)) hbvbp
  -- at w14
  have nb := not_sc ⟨_, _, hq2⟩ hv2 hb2 (by decide) (by decide)
  have no := not_sc ⟨_, _, hq2⟩ hv2 ho2 (by decide) (by decide)
  have np := not_sc ⟨_, _, hq2⟩ hv2 hbp2 (by decide) (by decide)
  have ho14 := hS.fr.blk ho2 no
  have hbp14 := hS.fr.blk hbp2 np
  have hBf14 := hBf2.fr hS.fr nb hap2
  have hpv : ∀ k, pv'.ownBlock = some k → k ∉ q :: v.ownBlock.toList := by
    intro k hk
    obtain ⟨c, x, hr⟩ := ownC_tag hO2 hk
    exact not_sc ⟨_, _, hq2⟩ hv2 hr (by decide) (by decide)
  have hO14 := hO2.fr hS.fr hpv
  -- at w15
  have ho15 := hfW.blk ho14 (not_buf hBf14 ho14 (by decide) (by decide))
  have hbp15 := hfW.blk hbp14 (not_buf hBf14 hbp14 (by decide) (by decide))
  have hq15 := hfW.blk hS.row (not_buf hBf14 hS.row (by decide) (by decide))
  have hO15 : OwnC w15 87 1 pv' 0 [] := hO14.fr hfW (fun k hk => by obtain ⟨c, x, hr⟩ := ownC_tag hO14 hk; exact not_buf hBf14 hr (by decide) (by decide))
  refine ⟨u2, hbp15, hO15, hq15, ne_tag hq15 hbp15 (by decide), fun e => ?_, fun e => ?_⟩
  · obtain ⟨c, x, h⟩ := ownC_tag hO15 e
    exact ne_tag h hbp15 (by decide) rfl
  · obtain ⟨c, x, h⟩ := ownC_tag hO15 e
    exact ne_tag h hq15 (by decide) rfl
/-- The buffer and its place, where the scratch has been written. -/
theorem mq_buf {w w1 w2 w14 : World} {o bp b q : Nat} {pv pv' bv v vk : Value} {po : Option (Nat × Value)} {bl lk : List UInt8}
    (hM : Mach w o bp b pv po bv bl) (hf1 : Fr [] w w1) (hf2 : Fr [bp] w1 w2) (hq2 : w2.heap[q]? = some (.cells #[v] 42 (0, 0))) (hv2 : Own w2 5 v []) (hp2 : PoolS w2 bp pv' none) (hm2 : GotQ w1 po q v)
    (hS : Sc w2 w14 q v vk lk) : BufW w14 b bv bl ∧ vk.ownBlock ≠ some b := by
  obtain ⟨⟨c2, c3, c4, hOp⟩, hPl, hBf, hAp⟩ := hM
  obtain ⟨u0, hbp0⟩ := hPl.1
  obtain ⟨u2, hbp2⟩ := hp2.1
  obtain ⟨lr0, hb0⟩ := hBf.1
  have hO2 : OwnC w2 87 1 pv' 0 [] := hp2.2
  -- at w2
  have hb2 := hf2.blk (hf1.blk hb0 List.not_mem_nil) (by simp; exact ne_tag hb0 hbp0 (by decide))
  have ho2 := hf2.blk (hf1.blk hOp List.not_mem_nil) (by simp; exact ne_tag hOp hbp0 (by decide))
  have hap2 := bv_apart hBf hAp hf1 hf2 ⟨_, _, hbp0⟩ ⟨_, _, hq2⟩ hm2
  have hbvbp : ∀ k, bv.ownBlock = some k → k ∉ [bp] := by
    intro k hk
    obtain ⟨c, x, hr⟩ := bufW_tag hBf hk
    simp
    exact ne_tag hr hbp0 (by decide)
  have hBf2 : BufW w2 b bv bl := (hBf.fr hf1 List.not_mem_nil (fun _ _ => List.not_mem_nil)).fr hf2 (by simp; exact ne_tag hb0 hbp0 (by decide)) hbvbp
  -- at w14
  have nb := not_sc ⟨_, _, hq2⟩ hv2 hb2 (by decide) (by decide)
  have no := not_sc ⟨_, _, hq2⟩ hv2 ho2 (by decide) (by decide)
  have np := not_sc ⟨_, _, hq2⟩ hv2 hbp2 (by decide) (by decide)
  have ho14 := hS.fr.blk ho2 no
  have hbp14 := hS.fr.blk hbp2 np
  have hBf14 := hBf2.fr hS.fr nb hap2
  have hpv : ∀ k, pv'.ownBlock = some k → k ∉ q :: v.ownBlock.toList := by
    intro k hk
    obtain ⟨c, x, hr⟩ := ownC_tag hO2 hk
    exact not_sc ⟨_, _, hq2⟩ hv2 hr (by decide) (by decide)
  have hO14 := hO2.fr hS.fr hpv
  refine ⟨hBf14, fun e => ?_⟩
  obtain ⟨c, x, h⟩ := own_tag hS.own e
  obtain ⟨lr, hb⟩ := hBf14.1
  exact ne_tag h hb (by decide) rfl
theorem PoolS.fr0 {w w' : World} {bp : Nat} {pv : Value} {po : Option (Nat × Value)} (h : PoolS w bp pv po) (f : Fr [] w w') : PoolS w' bp pv po := by
  obtain ⟨⟨u, hu⟩, h2⟩ := h
  refine ⟨⟨u, f.blk hu List.not_mem_nil⟩, ?_⟩
  cases po with
  | none => exact OwnC.fr h2 f (fun _ _ => List.not_mem_nil)
  | some p => exact ⟨h2.1.fr f (fun _ _ => List.not_mem_nil), f.blk h2.2.1 List.not_mem_nil, h2.2.2.fr f (fun _ _ => List.not_mem_nil)⟩
theorem get_any (bp : Nat) (pv : Value) (po : Option (Nat × Value)) (w : World) (h : PoolS w bp pv po) : Calls Tryz.prog 39 #[.pointer (some ⟨bp, 0, none⟩)] w (GetQ w bp pv po) := by
  cases po with
  | none => exact get_none bp pv w h
  | some p =>
    obtain ⟨q, v⟩ := p
    obtain ⟨⟨u, hu⟩, h2, h3, h4⟩ := id h
    refine get_some bp q v pv w h (ne_tag h3 hu (by decide)) (fun e => ?_) (fun e => ?_)
    · obtain ⟨c, x, hr⟩ := ownC_tag h2 e
      exact ne_tag hr hu (by decide) rfl
    · obtain ⟨c, x, hr⟩ := own_tag h4 e
      exact ne_tag hr hu (by decide) rfl
/-- Bytes that lie besides stay. -/
theorem own_besides {w w1 w2 w14 : World} {bp b q : Nat} {pv bv v vk cv : Value} {po : Option (Nat × Value)} {lk c : List UInt8} (hc : Own w 5 cv c) (hcs : ∀ g, cv.ownBlock = some g → g ∉ mblk bp b pv po bv)
    (hf1 : Fr [] w w1) (hf2 : Fr [bp] w1 w2) (hm2 : GotQ w1 po q v) (hS : Sc w2 w14 q v vk lk) : Own w14 5 cv c := by
  refine ((hc.fr hf1 (fun _ _ => List.not_mem_nil)).fr hf2 (fun g hg => ?_)).fr hS.fr (fun g hg hm => ?_)
  · have := hcs g hg
    unfold mblk at this
    simp at this ⊢
    exact this.1
  · have hlt := hc.lt g hg
    rcases got_in (bp := bp) (b := b) (pv := pv) (bv := bv) hm2 hf1.size g hm with h | h
    · exact hcs g hg h
    · omega
theorem own_row {w : World} {a : Option Addr} {n c : Nat} {l : List UInt8} (h : Own w 5 (.slice a n c) l) (hl : l ≠ []) : ∃ g, a = some ⟨g, 0, none⟩ ∧ n ≤ c := by
  rcases h with ⟨_, e⟩ | ⟨g, cap, e, hr⟩
  · exact absurd e hl
  · cases e
    obtain ⟨cur, fr, h1, h2, h3, h4, h5, h6⟩ := hr
    exact ⟨g, rfl, h4⟩
end Go.Proofs.YtpkkgngpjeoffaaGreatDoor
