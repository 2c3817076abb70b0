import Derived.Test.YtaaogjhaokaggaaGreatDoorBufW
import Derived.Deep.RegionLaw
import Derived.BigQuiet
namespace Go.Proofs.YtaaogjhaokaggaaGreatDoor
open Go.RowKit

theorem info3 : (Tryz.prog.info? 3).map (fun i => (i.zero, i.size, decide (i.bytes ≤ 1000))) = some (some (.int .i64 0), 1, true) := by kernel_rfl
theorem box7' {w : World} {b : Nat} {x0 x1 x2 x3 x4 x5 x6 : Value} (h : w.heap[b]? = some (.cells #[x0, x1, x2, x3, x4, x5, x6] 43 (0, 0))) :
    w.cell? ⟨b, 0, none⟩ = some x0 ∧ w.cell? ⟨b, 1, none⟩ = some x1 ∧ w.cell? ⟨b, 2, none⟩ = some x2 ∧ w.cell? ⟨b, 3, none⟩ = some x3 ∧ w.cell? ⟨b, 4, none⟩ = some x4 ∧ w.cell? ⟨b, 5, none⟩ = some x5 ∧ w.cell? ⟨b, 6, none⟩ = some x6 :=
  ⟨cell_of_row w b 0 _ 43 _ h, cell_of_row w b 1 _ 43 _ h, cell_of_row w b 2 _ 43 _ h, cell_of_row w b 3 _ 43 _ h, cell_of_row w b 4 _ 43 _ h, cell_of_row w b 5 _ 43 _ h, cell_of_row w b 6 _ 43 _ h⟩
theorem box12 {w : World} {b : Nat} {lax : Bool} (h : w.heap[b]? = some (.cells (laxP lax).cells 38 (0, 0))) :
    w.cell? ⟨b, 0, none⟩ = some (.int .i64 7) ∧ w.cell? ⟨b, 1, none⟩ = some (.string ⟨#[]⟩) ∧ w.cell? ⟨b, 2, none⟩ = some (.string ⟨#[]⟩) ∧ w.cell? ⟨b, 3, none⟩ = some (.int .i64 0) ∧ w.cell? ⟨b, 4, none⟩ = some (.string ⟨#[]⟩) ∧ w.cell? ⟨b, 5, none⟩ = some (.int .i64 0) ∧ w.cell? ⟨b, 6, none⟩ = some (.int .u64 0) ∧ w.cell? ⟨b, 7, none⟩ = some (.float .f64 0) ∧ w.cell? ⟨b, 8, none⟩ = some (.bool false) ∧ w.cell? ⟨b, 9, none⟩ = some (.int .i64 0) ∧ w.cell? ⟨b, 10, none⟩ = some (.int .i64 0) ∧ w.cell? ⟨b, 11, none⟩ = some (.bool lax) :=
  ⟨cell_of_row w b 0 _ 38 _ h, cell_of_row w b 1 _ 38 _ h, cell_of_row w b 2 _ 38 _ h, cell_of_row w b 3 _ 38 _ h, cell_of_row w b 4 _ 38 _ h, cell_of_row w b 5 _ 38 _ h, cell_of_row w b 6 _ 38 _ h, cell_of_row w b 7 _ 38 _ h, cell_of_row w b 8 _ 38 _ h, cell_of_row w b 9 _ 38 _ h, cell_of_row w b 10 _ 38 _ h, cell_of_row w b 11 _ 38 _ h⟩
theorem pool2 (w : World) (p q : PutD) : Pool w (((w.alloc (.cells p.cells 38)).drew).alloc (.cells q.cells 38)) (.slice (some ⟨w.heap.size, 0, none⟩) 1 1) (.slice (some ⟨w.heap.size + 1, 0, none⟩) 1 1) [p] [q] := by
  have hf1 : Fr [] ((w.alloc (.cells p.cells 38)).drew) (((w.alloc (.cells p.cells 38)).drew).alloc (.cells q.cells 38)) := (Fr.refl _ _).alloc _
  have h1 := own_one w p
  have h2 := own_one ((w.alloc (.cells p.cells 38)).drew) q
  have e1 : ((w.alloc (.cells p.cells 38)).drew).heap.size = w.heap.size + 1 := by simp
  rw [e1] at h2
  exact ⟨h1.fr (Fr.trans ((Fr.refl _ _).drew) hf1) (by simp), h2, (((Fr.refl _ _).alloc _).drew).alloc _, fun g hg => by simp [Value.ownBlock] at hg; omega, fun g hg => by simp [Value.ownBlock] at hg; omega, fun g hg h2 => by simp [Value.ownBlock] at hg h2; omega⟩
theorem Pool.app1g {w wc w2 : World} {v1 v2 v : Value} {l1 l2 m : List PutD} (h : Pool w wc v1 v2 l1 l2) (ho : OwnC w2 38 12 v (l1 ++ m).length (cellsOf (l1 ++ m))) (hf : Fr v1.ownBlock.toList wc w2) (hb : v.ownBlock = v1.ownBlock ∨ ∃ g, v.ownBlock = some g ∧ wc.heap.size ≤ g) : Pool w w2 v v2 (l1 ++ m) l2 := by
  refine ⟨ho, h.own2.fr hf (fun g hg hm => h.apart g (by simpa using hm) hg), h.fr.step hf (fun t ht => .inr (h.new1 t (by simpa using ht))), fun g hg => ?_, h.new2, fun g hg h2 => ?_⟩
  · rcases hb with hb | ⟨k, hb, hk⟩
    · exact h.new1 g (hb ▸ hg)
    · rw [hb] at hg; cases hg; exact Nat.le_trans h.fr.size hk
  · rcases hb with hb | ⟨k, hb, hk⟩
    · exact h.apart g (hb ▸ hg) h2
    · rw [hb] at hg; cases hg; have := h.own2.lt _ h2; omega
/-- The places that FnEncodeClear keeps. -/
def atL (l : List LnD) (k : Nat) : List Value := (List.range k).map fun j => .int .i64 ((lnAllC (l.take (j + 1))).length : Nat)
theorem atL_succ (l : List LnD) (k : Nat) : atL l (k + 1) = atL l k ++ [.int .i64 ((lnAllC (l.take (k + 1))).length : Nat)] := by simp [atL, List.range_succ]
theorem atL_at (l : List LnD) (k j : Nat) (h : j < k) : (atL l k)[j]? = some (.int .i64 ((lnAllC (l.take (j + 1))).length : Nat)) := by simp [atL, h]
structure ClrAt (w wr : World) (vc vp va : Value) (lax : Bool) (l : List LnD) (k : Nat) : Prop where
  pool : Pool w wr vc vp (laxP lax :: lnAllC (l.take k)) (laxP lax :: lnAll (l.take k))
  own : OwnC wr 3 1 va k (atL l k)
  new : ∀ g, va.ownBlock = some g → w.heap.size ≤ g
  noc : ∀ g, va.ownBlock = some g → vc.ownBlock ≠ some g
  nop : ∀ g, va.ownBlock = some g → vp.ownBlock ≠ some g
theorem nice_clear : Nice clearP where
  op := by simp [clearP]
  key := show (0 : Nat) ≤ 2000 by decide
  value := show (0 : Nat) ≤ 2000 by decide
  s := show (0 : Nat) ≤ 2000 by decide
  ok := nice_vd0
  flt := fun h => by cases h
  can := fun h => by simp only [clearP] at h; omega
  prec := fun h => by simp only [clearP] at h; omega
  n0 := show (-9223372036854775808 : Int) ≤ 0 by decide
  n1 := show (0 : Int) ≤ 9223372036854775807 by decide
  m0 := show (-9223372036854775808 : Int) ≤ 0 by decide
  m1 := show (0 : Int) ≤ 9223372036854775807 by decide
theorem nice_clear_all {l : List LnD} (h : LinesOk l) (hok : ∀ e, e ∈ l → LnOk e) (lax : Bool) : ∀ p, p ∈ laxP lax :: lnAllC l → Nice p := by
  intro p hp
  rcases List.mem_cons.1 hp with rfl | hp
  · exact nice_laxP lax
  · obtain ⟨e, he, hp⟩ := List.mem_flatMap.1 hp
    rcases List.mem_append.1 hp with hp | hp
    · exact nice_puts e (h.good e he) (hok e he) (lines_sz h he) p hp
    · simp at hp; rw [hp]; exact nice_clear
theorem lnAllC_len : ∀ l : List LnD, (lnAllC l).length = (lnAll l).length + l.length
  | [] => rfl
  | e :: l => by
    have h := lnAllC_len l
    have e1 : lnAllC (e :: l) = lnPuts e ++ [clearP] ++ lnAllC l := by simp [lnAllC, lnClear]
    have e2 : lnAll (e :: l) = lnPuts e ++ lnAll l := by simp [lnAll]
    rw [e1, e2]
    simp only [List.length_append, List.length_cons, List.length_nil, h]
    omega
theorem lnAllC_le {l : List LnD} (h : LinesOk l) (k : Nat) : (lnAllC (l.take k)).length ≤ 160 := by
  rw [lnAllC_len]
  have h1 := lnAll_le h k
  have h2 := h.len
  have h3 : (l.take k).length ≤ l.length := by rw [List.length_take]; omega
  omega
/-- What stood behind an entry, and behind its clearing. -/
theorem clear_cells (lax : Bool) {l : List LnD} (h : LinesOk l) {k : Nat} {e : LnD} (he : l[k]? = some e) :
    ∃ P c1, P = (lnAllC (l.take (k + 1))).length ∧ 1 ≤ P ∧ P < (laxP lax :: lnAllC l).length ∧ (c1.err != 0) = ((aloneSt lax 0 e).err != 0) ∧ runs fTx St0 ((laxP lax :: lnAllC l).take P) = some c1 ∧ runs fTx St0 ((laxP lax :: lnAllC l).take (P + 1)) = some { c1 with err := 0 } := by
  obtain ⟨c1, h1, h2, h3⟩ := clear_at lax l h.good k e he
  have hsn := lnAllC_snoc l k e he
  have hpre : laxP lax :: lnAllC l = (laxP lax :: lnAllC (l.take k) ++ lnPuts e ++ [clearP]) ++ lnAllC (l.drop (k + 1)) := by
    have : lnAllC l = lnAllC (l.take (k + 1)) ++ lnAllC (l.drop (k + 1)) := by
      unfold lnAllC
      rw [← List.flatMap_append, List.take_append_drop]
    rw [this, hsn]
    simp only [List.cons_append, List.append_assoc]
  have hP : (lnAllC (l.take (k + 1))).length = (laxP lax :: lnAllC (l.take k) ++ lnPuts e).length := by
    rw [hsn]; simp only [List.length_append, List.length_cons, List.length_nil]; omega
  refine ⟨_, c1, rfl, ?_, ?_, h2, ?_, ?_⟩
  · rw [hP]; simp only [List.length_append, List.length_cons]; omega
  · rw [hpre, hP]; simp only [List.length_append, List.length_cons, List.length_nil]; omega
  · rw [hpre, hP, List.append_assoc, List.take_left]; exact h1
  · rw [hpre, show (lnAllC (l.take (k + 1))).length + 1 = (laxP lax :: lnAllC (l.take k) ++ lnPuts e ++ [clearP]).length by rw [List.length_append, ← hP]; rfl, List.take_left]
    exact h3
set_option maxRecDepth 100000 in
set_option maxHeartbeats 4000000 in
theorem clr_early (l : List LnD) (v : Value) (lax : Bool) (w : World) (hlen : l.length ≤ 9223372036854775807) (hok : ∀ e, e ∈ l → LnOk e) (hP : LinesIn w v l) (hf : fitLs l = false) :
    Calls Tryz.prog 6 #[v, .bool lax] w fun e w' => e = .returned (.bool true) ∧ Fr [] w w' := by
  have hz := zzFits4_any l v w hlen hok hP
  rw [hf] at hz
  have HZ := Lib.hid hz
  clear hz hP hok hf
  go_enter Tryz.func6, Tryz.ntmps6
  go_wp2_with (go_at_call 20; refine HZ.out.mono ?_; rintro e w1 ⟨rfl, hf1⟩)
  go_ret
  exact ⟨rfl, hf1⟩
set_option maxRecDepth 100000 in
set_option maxHeartbeats 100000000 in
theorem clr_main (hV : ValidSaid) {ea : Addr} {B0 : Nat} (l : List LnD) (v : Value) (lax : Bool) (w : World) (hG : Gl B0 ea w) (hok : ∀ e, e ∈ l → LnOk e) (hP : LinesIn w v l) (hf : fitLs l = true) :
    Calls Tryz.prog 6 #[v, .bool lax] w fun e w' => e = .returned (.bool true) ∧ Fr [] w w' := by
  have hlen := fits_len hf
  have hz := zzFits4_any l v w (by omega) hok hP
  rw [hf] at hz
  have hl := fun w1 (h : Fr [] w w1) => lLines_any l v w1 hlen hf (hP.fr h)
  have HZ := Lib.hid hz
  have HL := Lib.hid hl
  have HOK := Lib.hid hok
  have HG := Lib.hid hG
  obtain ⟨a, c, rfl, hrow⟩ := hP
  have HROW := Lib.hid hrow
  obtain ⟨L, hL⟩ : ∃ L, L = l.length := ⟨_, rfl⟩
  rw [← hL] at hlen HZ HL ⊢
  have HLL := Lib.hid hL
  have hsf : ∀ (a : Addr) (k : FloatKind) (b : Nat) (m : Mode) (w : World), (store a (.float k b) m).run Tryz.prog w = stored Tryz.prog w a (.float k b) m := fun a k b m w => run_store Tryz.prog w a _ m rfl
  obtain ⟨i38, hi38, hz38, hs38, hb38⟩ := parts_c info38
  obtain ⟨i3, hi3, hz3, hs3, hb3⟩ := parts_c info3
  have HI38 := Lib.hid (And.intro hi38 (And.intro hz38 (And.intro hs38 hb38)))
  have HI3 := Lib.hid (And.intro hi3 (And.intro hz3 (And.intro hs3 hb3)))
  clear hz hok hf hl hrow hG hL hi38 hz38 hs38 hb38 hi3 hz3 hs3 hb3
  go_enter Tryz.func6, Tryz.ntmps6
  go_upto_region 3 with (go_at_call 20; refine HZ.out.mono ?_; rintro e w1 ⟨rfl, hf1⟩; have HF1 := Lib.hid hf1; clear hf1)
  go_upto_region 5 with (go_at_call 21; refine (HL.out _ HF1.out).mono ?_; rintro e w2 ⟨⟨b, rfl, hb⟩, hf2⟩; have HF2 := Lib.hid (HF1.out.trans hf2); have HB := Lib.hid hb; clear hf2 hb; cases b)
  · go_ret
    exact ⟨rfl, HF2.out⟩
  have HLO := Lib.hid (HB.out trivial)
  clear HB
  go_upto_region 6 with fail
  obtain ⟨w3, hw3⟩ : ∃ z, z = w2.alloc (.cells (laxP lax).cells 38) := ⟨_, rfl⟩
  rw [show w2.alloc (.cells #[.int .i64 7, .string ⟨#[]⟩, .string ⟨#[]⟩, .int .i64 0, .string ⟨#[]⟩, .int .i64 0, .int .u64 0, .float .f64 0, .bool false, .int .i64 0, .int .i64 0, .bool lax] 38) = w3 from hw3.symm]
  have HBB : Hid (w3.heap[w2.heap.size]? = some (.cells (laxP lax).cells 38 (0, 0))) := Lib.hid (by rw [hw3]; exact heap_alloc_new _ _)
  have HF3 : Hid (Fr [] w w3) := Lib.hid (by rw [hw3]; exact HF2.out.alloc _)
  have HSZ3 : Hid (w3.heap.size = w2.heap.size + 1) := Lib.hid (by rw [hw3]; simp)
  clear hw3
  obtain ⟨b0, b1, b2, b3, b4, b5, b6, b7, b8, b9, b10, b11⟩ := box12 (w := w3.drew) HBB.out
  obtain ⟨q0, q1, q2, q3, q4, q5, q6, q7, q8, q9, q10, q11⟩ := box12 (w := (w3.alloc (.cells #[.int .i64 7, .string ⟨#[]⟩, .string ⟨#[]⟩, .int .i64 0, .string ⟨#[]⟩, .int .i64 0, .int .u64 0, .float .f64 0, .bool false, .int .i64 0, .int .i64 0, .bool lax] 38)).drew) (((Fr.refl [] w3).alloc (.cells (laxP lax).cells 38)).drew.blk (o := .cells (laxP lax).cells 38 (0, 0)) HBB.out (by simp))
  go_cut [6, 7] (fun vc vp wx => Hid (Pool w3 wx vc vp [laxP lax] [laxP lax]))
  case first =>
    go_region
    all_goals
      go_wp2_with fail
      go_meet
      first
        | exact Lib.hid (pool2 w3 (laxP lax) (laxP lax))
        | exact Lib.hid (pool2 w3 (laxP lax) (laxP lax)).swap
  obtain ⟨w4, hw4⟩ : ∃ z, z = wc := ⟨_, rfl⟩
  subst hw4
  have HP4 := Lib.hid hcut.out
  clear hcut b0 b1 b2 b3 b4 b5 b6 b7 b8 b9 b10 b11 q0 q1 q2 q3 q4 q5 q6 q7 q8 q9 q10 q11
  go_wp2_with fail
  go_loopw [6, 7, 8, 37] (fun vc vp va i wr => ∃ k : Nat, k ≤ L ∧ i = .int .i64 k ∧ Hid (ClrAt w3 wr vc vp va lax l k)) (fun _ _ _ i _ => L - (intOf i).toNat)
  case atStart => exact ⟨0, Nat.zero_le _, rfl, Lib.hid ⟨by simpa [lnAllC, lnAll] using HP4.out, OwnC.nil _ _ _, fun g hg => by simp [Value.ownBlock] at hg, fun g hg => by simp [Value.ownBlock] at hg, fun g hg => by simp [Value.ownBlock] at hg⟩⟩
  case round =>
    obtain ⟨k, hk, rfl, HA⟩ := hrel
    by_cases hlt : k < L
    case pos =>
      have hlk : k < l.length := by rw [← HLL.out]; exact hlt
      obtain ⟨x, hx⟩ : ∃ x, l[k]? = some x := ⟨l[k], List.getElem?_eq_getElem hlk⟩
      have hmem := List.mem_of_getElem? hx
      obtain ⟨g, off, rfl, cs, hline, hcell⟩ := lines_at HROW.out hx (HF3.out.trans HA.out.pool.fr)
      have hpt := lines_pt HLO.out hmem
      have hgd := HLO.out.good x hmem
      have hcal : ∀ w', Fr [] wr w' → Calls Tryz.prog 22 #[.agg cs] w' fun ε w2 => ∃ v, ε = .returned v ∧ OutC w' w2 v (lnPuts x) := fun w' hf => lCalls_any x cs w' (by unfold lnPt at hpt; omega) (by unfold lnPt at hpt; omega) hgd.vals (hline.fr hf)
      have HX := Lib.hid hx
      have HCAL := Lib.hid hcal
      have hpl : (lnPuts x).length ≤ 200 := by have := lnPuts_len x hgd; omega
      have hle1 : (laxP lax :: lnAll (l.take k)).length + (lnPuts x).length ≤ 1000000000 := by
        have h2 := lnAll_le HLO.out k
        rw [List.length_cons]
        omega
      have hle2 : (laxP lax :: lnAllC (l.take k)).length + (lnPuts x).length ≤ 1000 := by
        have h2 := lnAllC_le HLO.out k
        rw [List.length_cons]
        omega
      have HLE1 := Lib.hid hle1
      have HLE2 := Lib.hid hle2
      obtain ⟨tv, fv, vv, rfl, ⟨ta, tc, rfl, _⟩, ⟨fa, fc, rfl, _⟩, ⟨va, vc, rfl, _⟩⟩ := hline
      have c0 : wr.cell? ⟨g, off + k * 7, none⟩ = some (.string x.name) := hcell 0 _ rfl
      have c1 : wr.cell? ⟨g, off + k * 7 + 1, none⟩ = some (.slice ta x.tags.length tc) := hcell 1 _ rfl
      have c2 : wr.cell? ⟨g, off + k * 7 + 2, none⟩ = some (.slice fa x.fields.length fc) := hcell 2 _ rfl
      have c3 : wr.cell? ⟨g, off + k * 7 + 3, none⟩ = some (.slice va x.values.length vc) := hcell 3 _ rfl
      have c4 : wr.cell? ⟨g, off + k * 7 + 4, none⟩ = some (.int .i64 x.n) := hcell 4 _ rfl
      have c5 : wr.cell? ⟨g, off + k * 7 + 5, none⟩ = some (.bool x.non) := hcell 5 _ rfl
      have c6 : wr.cell? ⟨g, off + k * 7 + 6, none⟩ = some (.bool x.raw) := hcell 6 _ rfl
      clear hcell hx hmem hpt hgd hcal hlk hpl hle1 hle2
      go_upto_region 12 with (go_at_call 22; refine (HCAL.out _ ((Fr.refl _ _).alloc _)).mono ?_; rintro ε w7 ⟨v7, rfl, ho7⟩; have hpk := HA.out.pool.keep ((Fr.refl _ _).alloc _) ho7; have HP7 := Lib.hid hpk.1; have HK7 := Lib.hid hpk.2; have HA7 := Lib.hid (HA.out.own.fr (((Fr.refl _ _).alloc _).trans ho7.fr) (by simp)); clear hpk ho7)
      have HN := Lib.hid HA.out.noc
      have HNP := Lib.hid HA.out.nop
      go_upto_region 13 with (at_builtin; refine wpAppP w7 (o := ⟨some 45, _, _, _, _, _⟩) rfl (.tmp 43) (.tmp 44) rfl u7 v7 (laxP lax :: lnAll (l.take k)) (lnPuts x) rfl rfl HP7.out.own2 HK7.out.own HLE1.out ?_; intro v8 w8 ho8 hf8 hb8; have HP8 := Lib.hid (HP7.out.app2 ho8 hf8 hb8); have HK8 := Lib.hid (HK7.out.app2 hf8 hb8); have HA8 := Lib.hid (HA7.out.fr hf8 (fun g hg hm => HNP.out g hg (by simpa using hm))); have HM8 : Hid (∀ g, u8.ownBlock = some g → v8.ownBlock ≠ some g) := Lib.hid (fun g hg h2 => by rcases hb8 with hb | hb; exact HNP.out g hg (hb ▸ h2); rw [hb] at h2; cases h2; have := HA7.out.lt _ hg; omega); clear ho8 hf8 hb8)
      have hn1 : (laxP lax :: lnAllC (l.take k)).length + (lnPuts x).length = ((laxP lax :: lnAllC (l.take k)) ++ lnPuts x).length := by rw [List.length_append]
      have HN1 := Lib.hid hn1
      clear hn1
      go_upto_region 14 with (first
        | (at_builtin; refine wpAppP w8 (o := ⟨some 48, _, _, _, _, _⟩) rfl (.tmp 46) (.tmp 47) rfl u6 v7 (laxP lax :: lnAllC (l.take k)) (lnPuts x) rfl rfl HP8.out.own1 HK8.out.own (by have := HLE2.out; omega) ?_; intro v9 w9 ho9 hf9 hb9; have HP9 := Lib.hid (HP8.out.app1 ho9 hf9 hb9); have HA9 := Lib.hid (HA8.out.fr hf9 (fun g hg hm => HN.out g hg (by simpa using hm))); have HM9 : Hid (∀ g, u8.ownBlock = some g → v9.ownBlock ≠ some g) := Lib.hid (fun g hg h2 => by rcases hb9 with hb | hb; exact HN.out g hg (hb ▸ h2); rw [hb] at h2; cases h2; have := HA8.out.lt _ hg; omega); clear ho9 hf9 hb9)
        | (at_builtin; refine wpApp1C w9 (o := ⟨some 51, _, _, _, _, _⟩) rfl (.tmp 48) (.tmp 50) 39 rfl 38 i38 _ Tryz.underlying39 HI38.out.1 HI38.out.2.1 12 HI38.out.2.2.1 HI38.out.2.2.2 rfl v9 ((laxP lax :: lnAllC (l.take k)) ++ lnPuts x).length (cellsOf ((laxP lax :: lnAllC (l.take k)) ++ lnPuts x)) #[.int .i64 4, .string ⟨#[]⟩, .string ⟨#[]⟩, .int .i64 0, .string ⟨#[]⟩, .int .i64 0, .int .u64 0, .float .f64 0, .bool false, .int .i64 0, .int .i64 0, .bool false] rfl (by simp [Value.oneCell']) rfl rfl HP9.out.own1 (by rw [← HN1.out]; have := HLE2.out; omega) ?_; intro v10 w10 ho10 hf10 hb10; have HP10 := Lib.hid (HP9.out.app1g (m := [clearP]) (by rw [List.length_append, show cellsOf (((laxP lax :: lnAllC (l.take k)) ++ lnPuts x) ++ [clearP]) = cellsOf ((laxP lax :: lnAllC (l.take k)) ++ lnPuts x) ++ clearP.cells.toList by simp [cellsOf]]; exact ho10) hf10 hb10); have HA10 := Lib.hid (HA9.out.fr hf10 (fun g hg hm => HM9.out g hg (by simpa using hm))); have HM10 : Hid (∀ g, u8.ownBlock = some g → v10.ownBlock ≠ some g) := Lib.hid (fun g hg h2 => by rcases hb10 with hb | ⟨q, hb, hq⟩; exact HM9.out g hg (hb ▸ h2); rw [hb] at h2; cases h2; have := HA9.out.lt _ hg; omega); clear ho10 hf10 hb10))
      have hpl : Pool w3 w10 v10 v8 (laxP lax :: lnAllC (l.take (k + 1))) (laxP lax :: lnAll (l.take (k + 1))) := by
        have := HP10.out
        rw [lnAllC_snoc l k x HX.out, lnAll_snoc l k x HX.out]
        simpa using this
      obtain ⟨a10, c10, hv10⟩ := hpl.own1.shape
      obtain ⟨P, hP⟩ : ∃ P, P = (lnAllC (l.take (k + 1))).length := ⟨_, rfl⟩
      obtain ⟨P1, hP1⟩ : ∃ P1, P1 = P + 1 := ⟨_, rfl⟩
      have hPle : P ≤ 160 := by rw [hP]; exact lnAllC_le HLO.out (k + 1)
      rw [show (laxP lax :: lnAllC (l.take (k + 1))).length = P1 by rw [List.length_cons, ← hP, hP1]] at hv10
      subst hv10
      have hw := wr_sub P1 P hP1.symm (by rw [hP1]; exact Nat.le_trans (Nat.succ_le_succ hPle) (by decide))
      have HPL := Lib.hid hpl
      have HPP := Lib.hid hP
      have HNEW := Lib.hid HA.out.new
      clear hpl hP hP1 hPle
      go_upto_region 15 with (at_builtin; refine wpApp1C w10 (o := ⟨some 57, _, _, _, _, _⟩) rfl (.tmp 52) (.tmp 56) 51 rfl 3 i3 _ Tryz.underlying51 HI3.out.1 HI3.out.2.1 1 HI3.out.2.2.1 HI3.out.2.2.2 rfl u8 k (atL l k) #[.int .i64 (P : Int)] rfl (by simp [Value.oneCell']) rfl rfl HA10.out (by have := HLO.out.len; have := HLL.out; omega) ?_; intro v11 w11 ho11 hf11 hb11; have HO11 := Lib.hid ho11; have HF11 := Lib.hid hf11; have HB11 := Lib.hid hb11; clear ho11 hf11 hb11)
      go_wp2_with fail
      go_roundw
      case rel =>
        refine ⟨k + 1, by omega, by go_num, Lib.hid ⟨?_, ?_, ?_, ?_, ?_⟩⟩
        · have h1 : ∀ v : Value, (∀ g, u8.ownBlock = some g → v.ownBlock ≠ some g) → ∀ g, v.ownBlock = some g → g ∉ u8.ownBlock.toList := fun v hv g hg hm => hv g (by simpa using hm) hg
          have hp := HPL.out
          exact ⟨hp.own1.fr HF11.out (h1 _ HM10.out), hp.own2.fr HF11.out (h1 _ HM8.out), hp.fr.step HF11.out (fun t ht => .inr (HNEW.out t (by simpa using ht))), hp.new1, hp.new2, hp.apart⟩
        · rw [atL_succ, ← HPP.out]; exact HO11.out
        · intro g hg
          rcases HB11.out with hb | ⟨q, hb, hq⟩
          · exact HNEW.out g (hb ▸ hg)
          · rw [hb] at hg; cases hg; exact Nat.le_trans HPL.out.fr.size hq
        · intro g hg h2
          rcases HB11.out with hb | ⟨q, hb, hq⟩
          · exact HM10.out g (hb ▸ hg) h2
          · rw [hb] at hg; cases hg; have := HPL.out.own1.lt _ h2; omega
        · intro g hg h2
          rcases HB11.out with hb | ⟨q, hb, hq⟩
          · exact HM8.out g (hb ▸ hg) h2
          · rw [hb] at hg; cases hg; have := HPL.out.own2.lt _ h2; omega
      case measure => simp [intOf]; omega
    case neg =>
      have hlk : l.take k = l := List.take_of_length_le (by rw [← HLL.out]; omega)
      have hkl : k = l.length := by rw [← HLL.out]; omega
      have hA := HA.out
      rw [hkl] at hA
      have hO := hA.pool
      rw [List.take_length] at hO
      obtain ⟨s1, hs1, hs2, _⟩ := plain_all lax l HLO.out.good
      obtain ⟨s2, ht1, ht2⟩ := clear_all lax l HLO.out.good
      have hnice := nice_plain_all HLO.out HOK.out lax
      have hniceC := nice_clear_all HLO.out HOK.out lax
      have hcap : (lnAll l).length ≤ 140 := by have := lnAll_le HLO.out k; rw [hlk] at this; exact this
      have hcapC : (lnAllC l).length ≤ 160 := by have := lnAllC_le HLO.out k; rw [hlk] at this; exact this
      obtain ⟨S, hS⟩ : ∃ S, S = wantT lax 0 l := ⟨_, rfl⟩
      rw [← hS] at hs2 ht2
      obtain ⟨M, hM⟩ : ∃ M, M = (laxP lax :: lnAll l).length := ⟨_, rfl⟩
      obtain ⟨N, hN⟩ : ∃ N, N = (laxP lax :: lnAllC l).length := ⟨_, rfl⟩
      have hE1 : Calls Tryz.prog 23 #[u7] wr fun e w' => ∃ g cap, e = .returned (.tuple #[.string ⟨S.toArray⟩, .slice (some ⟨g, 0, none⟩) M cap, .bool true]) ∧ Fr [] wr w' := by
        refine (nice_encode hV (laxP lax :: lnAll l) hnice (Nat.le_trans (Nat.succ_le_succ hcap) (by decide)) u7 wr (HG.out.fr (HF3.out.trans hO.fr) (by simp)) hO.own2).mono ?_
        intro e w' h
        obtain ⟨g, cap, h1, h2, _, h3, _⟩ := enc_known hnice hs1 (Nat.succ_pos _) h
        rw [← hM, hs2] at h1
        exact ⟨g, cap, h1, h2⟩
      have hE2 : ∀ ww, Fr [] wr ww → Calls Tryz.prog 23 #[u6] ww fun e w' => ∃ g cap, e = .returned (.tuple #[.string ⟨S.toArray⟩, .slice (some ⟨g, 0, none⟩) N cap, .bool true]) ∧ Fr [] ww w' ∧
          (∀ j st', j < N → runs fTx St0 ((laxP lax :: lnAllC l).take (j + 1)) = some st' → w'.cell? ⟨g, j * 3, none⟩ = some (.bool (st'.err != 0))) := by
        intro ww f
        refine (nice_encode hV (laxP lax :: lnAllC l) hniceC (Nat.le_trans (Nat.succ_le_succ hcapC) (by decide)) u6 ww (HG.out.fr ((HF3.out.trans hO.fr).trans f) (by simp)) (hO.own1.fr f (by simp))).mono ?_
        intro e w' h
        obtain ⟨g, cap, h1, h2, _, h3, h4⟩ := enc_known hniceC ht1 (Nat.succ_pos _) h
        rw [← hN, ht2] at h1
        rw [← hN] at h4
        exact ⟨g, cap, h1, h2, fun j st' hj hr => (h4 j st' hj hr).1⟩
      obtain ⟨a8, c8, hv8⟩ := hO.own1.shape
      rw [← hN] at hv8
      subst hv8
      have HE1 := Lib.hid hE1
      have HE2 := Lib.hid hE2
      have HFW := Lib.hid (HF3.out.trans hO.fr)
      have HFO := Lib.hid hO.fr
      have HAT := Lib.hid hA.own
      have HNN := Lib.hid hN
      obtain ⟨aa, ca, hva⟩ := hA.own.shape
      subst hva
      clear hlk hkl hA hO hs1 hs2 ht1 ht2 hnice hniceC hcap hcapC hS hM hN hE1 hE2 HA
      go_upto_region 18 with (first
        | (go_at_call_of 23 u7; refine HE1.out.mono ?_; rintro e w9 ⟨g9, cap9, rfl, hf9⟩; have HF9 := Lib.hid hf9; clear hf9)
        | (go_at_call_of 23 a8; refine (HE2.out _ HF9.out).mono ?_; rintro e w10 ⟨g10, cap10, rfl, hf10, hd10⟩; have HF10 := Lib.hid ((HFW.out.trans HF9.out).trans hf10); have HFO10 := Lib.hid ((HFO.out.trans HF9.out).trans hf10); have HAT10 := Lib.hid (HAT.out.fr (HF9.out.trans hf10) (by simp)); have HD10 := Lib.hid hd10; clear hf10 hd10))
      have HBB10 := Lib.hid (HFO10.out.blk HBB.out (by simp))
      go_wp2_with fail
      go_loopw [91] (fun i wx => ∃ k : Nat, k ≤ L ∧ i = .int .i64 k ∧ Hid (Fr [] w10 wx)) (fun i _ => L - (intOf i).toNat)
      case atStart => exact ⟨0, Nat.zero_le _, rfl, Lib.hid (Fr.refl _ _)⟩
      case round =>
        obtain ⟨k, hk, rfl, HFX⟩ := hrel
        by_cases hlt : k < L
        case neg =>
          go_wp2_with fail
          go_ret
          exact ⟨rfl, HF10.out.trans HFX.out⟩
        have hlk : k < l.length := by rw [← HLL.out]; exact hlt
        obtain ⟨x, hx⟩ : ∃ x, l[k]? = some x := ⟨l[k], List.getElem?_eq_getElem hlk⟩
        have hmem := List.mem_of_getElem? hx
        obtain ⟨g, off, rfl, cs, hline, hcell⟩ := lines_at HROW.out hx (HF10.out.trans HFX.out)
        have hpt := lines_pt HLO.out hmem
        have hgd := HLO.out.good x hmem
        have hcal : ∀ w', Fr [] wr w' → Calls Tryz.prog 22 #[.agg cs] w' fun ε w2 => ∃ v, ε = .returned v ∧ OutC w' w2 v (lnPuts x) := fun w' hf => lCalls_any x cs w' (by unfold lnPt at hpt; omega) (by unfold lnPt at hpt; omega) hgd.vals (hline.fr hf)
        have hpl : (lnPuts x).length ≤ 200 := by have := lnPuts_len x hgd; omega
        obtain ⟨P, st1, hP1, hP2, hP3, he1, hr1, hr2⟩ := clear_cells lax HLO.out hx
        obtain ⟨P1, hP4⟩ : ∃ P1, P = P1 + 1 := ⟨P - 1, by omega⟩
        rw [← HNN.out] at hP3
        obtain ⟨E, hE⟩ : ∃ E, E = ((aloneSt lax 0 x).err != 0) := ⟨_, rfl⟩
        rw [← hE] at he1
        have e1 := HFX.out.cell (HD10.out P1 st1 (by omega) (by rw [← hP4]; exact hr1)) (by simp)
        rw [he1] at e1
        have e2 := HFX.out.cell (HD10.out P { st1 with err := 0 } hP3 hr2) (by simp)
        simp only [bne_self_eq_false] at e2
        obtain ⟨ga, capa, hsl, _, _, hac⟩ := HAT10.out.row (by omega)
        have e3 := HFX.out.cell (hac k _ (atL_at l l.length k hlk)) (by simp)
        rw [← hP1] at e3
        obtain ⟨haa, -, -⟩ := Value.slice.inj hsl
        subst haa
        have hki : (k : Int) < (l.length : Int) := Int.ofNat_lt.2 hlk
        have hPle : P ≤ 160 := by rw [hP1]; exact lnAllC_le HLO.out (k + 1)
        have hwP := wr_sub P P1 hP4.symm (Nat.le_trans hPle (by decide))
        have hPN : (P : Int) < (N : Int) := Int.ofNat_lt.2 hP3
        have hPN1 : (P1 : Int) < (N : Int) := Int.ofNat_lt.2 (by omega)
        obtain ⟨X, X1, hX0, hX1, hX2⟩ : ∃ X X1, (laxP lax :: lnPuts x).length = X ∧ X1 + 1 = X ∧ X - 1 = X1 := ⟨(lnPuts x).length + 1, (lnPuts x).length, by rw [List.length_cons], rfl, rfl⟩
        have hXle : X ≤ 201 := by rw [← hX0, List.length_cons]; omega
        have hwX := wr_sub X X1 hX1 (Nat.le_trans hXle (by decide))
        have hXlt : (X1 : Int) < (X : Int) := Int.ofNat_lt.2 (by omega)
        have hn1 : ∀ p, p ∈ laxP lax :: lnPuts x → Nice p := fun p hp => by
          rcases List.mem_cons.1 hp with rfl | hp
          · exact nice_laxP lax
          · exact nice_puts x hgd (HOK.out x hmem) (lines_sz HLO.out hmem) p hp
        have hone := plain_one lax x hgd
        have hcE : ∀ (vv : Value) (ww : World), Gl B0 ea ww → OwnC ww 38 12 vv ([laxP lax] ++ lnPuts x).length (cellsOf ([laxP lax] ++ lnPuts x)) → Calls Tryz.prog 23 #[vv] ww fun e w' => ∃ s g cap, e = .returned (.tuple #[.string s, .slice (some ⟨g, 0, none⟩) X cap, .bool true]) ∧ Fr [] ww w' ∧ w'.cell? ⟨g, X1 * 3, none⟩ = some (.bool E) := by
          intro vv ww hg ho
          refine (nice_encode hV (laxP lax :: lnPuts x) hn1 (by rw [hX0]; exact Nat.le_trans hXle (by decide)) vv ww hg ho).mono ?_
          intro e w' h
          obtain ⟨g, cap, h1, h2, _, h3, _⟩ := enc_known hn1 hone (Nat.succ_pos _) h
          rw [hX0] at h1
          rw [hX0, hX2, ← hE] at h3
          exact ⟨_, g, cap, h1, h2, h3⟩
        have HCE := Lib.hid hcE
        have HCAL := Lib.hid hcal
        have hlx : [laxP lax].length + (lnPuts x).length ≤ 1000000000 := by rw [List.length_singleton]; omega
        have HLX := Lib.hid hlx
        obtain ⟨tv, fv, vv, rfl, ⟨ta, tc, rfl, _⟩, ⟨fa, fc, rfl, _⟩, ⟨va, vc, rfl, _⟩⟩ := hline
        have c0 : wr.cell? ⟨g, off + k * 7, none⟩ = some (.string x.name) := hcell 0 _ rfl
        have c1 : wr.cell? ⟨g, off + k * 7 + 1, none⟩ = some (.slice ta x.tags.length tc) := hcell 1 _ rfl
        have c2 : wr.cell? ⟨g, off + k * 7 + 2, none⟩ = some (.slice fa x.fields.length fc) := hcell 2 _ rfl
        have c3 : wr.cell? ⟨g, off + k * 7 + 3, none⟩ = some (.slice va x.values.length vc) := hcell 3 _ rfl
        have c4 : wr.cell? ⟨g, off + k * 7 + 4, none⟩ = some (.int .i64 x.n) := hcell 4 _ rfl
        have c5 : wr.cell? ⟨g, off + k * 7 + 5, none⟩ = some (.bool x.non) := hcell 5 _ rfl
        have c6 : wr.cell? ⟨g, off + k * 7 + 6, none⟩ = some (.bool x.raw) := hcell 6 _ rfl
        have HE123 := Lib.hid (And.intro e1 (And.intro e2 e3))
        clear hcell hx hmem hpt hgd hcal hlk hpl hP1 hP2 hP3 hP4 he1 hr1 hr2 hE e1 e2 e3 hac hsl hPle hX0 hX1 hX2 hXle hn1 hone hcE hlx
        go_upto_region 23 with fail
        obtain ⟨wb, hwb⟩ : ∃ z, z = wr.alloc (.cells #[.string x.name, .slice ta x.tags.length tc, .slice fa x.fields.length fc, .slice va x.values.length vc, .int .i64 x.n, .bool x.non, .bool x.raw] 43) := ⟨_, rfl⟩
        rw [← hwb]
        have hfb : Fr [] wr wb := by rw [hwb]; exact (Fr.refl _ _).alloc _
        have HFB := Lib.hid hfb
        have hbx : wb.heap[wr.heap.size]? = some (.cells #[.string x.name, .slice ta x.tags.length tc, .slice fa x.fields.length fc, .slice va x.values.length vc, .int .i64 x.n, .bool x.non, .bool x.raw] 43 (0, 0)) := by rw [hwb]; exact heap_alloc_new _ _
        have HBX := Lib.hid hbx
        have hlb : w10.heap[w2.heap.size]? = some (.cells (laxP lax).cells 38 (0, 0)) := HBB10.out
        have HLB := Lib.hid ((HFX.out.trans HFB.out).blk hlb (by simp))
        obtain ⟨d0, d1, d2, d3, d4, d5, d6⟩ := box7' (w := wb.drew) hbx
        obtain ⟨z0, z1, z2, z3, z4, z5, z6⟩ := box7' (w := (wb.alloc (.cells #[.int .i64 7, .string ⟨#[]⟩, .string ⟨#[]⟩, .int .i64 0, .string ⟨#[]⟩, .int .i64 0, .int .u64 0, .float .f64 0, .bool false, .int .i64 0, .int .i64 0, .bool lax] 38)).drew) ((((Fr.refl [] wb).alloc (.cells #[.int .i64 7, .string ⟨#[]⟩, .string ⟨#[]⟩, .int .i64 0, .string ⟨#[]⟩, .int .i64 0, .int .u64 0, .float .f64 0, .bool false, .int .i64 0, .int .i64 0, .bool lax] 38)).drew).blk hbx (by simp))
        obtain ⟨b0, b1, b2, b3, b4, b5, b6, b7, b8, b9, b10, b11⟩ := box12 (w := wb.drew) HLB.out
        clear hwb hfb hbx hlb c0 c1 c2 c3 c4 c5 c6
        go_cut [20, 21, 22] (fun x20 x21 x22 wx => ∃ (s : ByteArray) (g cap : Nat), x20 = .string s ∧ x21 = .slice (some ⟨g, 0, none⟩) X cap ∧ x22 = .bool true ∧ Hid (wx.cell? ⟨g, X1 * 3, none⟩ = some (.bool E)) ∧ Hid (Fr [] wr wx))
        case first =>
          refine wp_region_noPanic ?_
          go_region_law (first
            | (go_simp; go_at_call 22; refine (HCAL.out _ (by first | exact HFB.out.drew | exact (HFB.out.alloc _).drew)).mono ?_; rintro ε w7 ⟨v7, rfl, ho7⟩; have hf7 : Fr [] wb w7 := (by first | exact ((Fr.refl _ _).drew).trans ho7.fr | exact (((Fr.refl _ _).alloc _).drew).trans ho7.fr); obtain ⟨y0, y1, y2, y3, y4, y5, y6, y7, y8, y9, y10, y11⟩ := box12 (hf7.blk HLB.out (by simp)); have HO7 := Lib.hid ho7; have HF7 := Lib.hid hf7; clear ho7 hf7)
            | (refine stepAppP w7 (by rfl) _ _ (by rfl) (.slice (some ⟨wb.heap.size, 0, none⟩) 1 1) v7 [laxP lax] (lnPuts x) (by rfl) (by rfl) (((own_one wb (laxP lax)).fr ((Fr.refl [] _).drew) (by simp)).fr HO7.out.fr (by simp)) HO7.out.own HLX.out ?_; intro v8 w8 ho8 hf8 _; have hf8b : Fr [] wb w8 := HF7.out.step hf8 (fun t ht => .inr (by simp [Value.ownBlock] at ht; omega)); have HO8 := Lib.hid ho8; have HF8 := Lib.hid hf8b; clear ho8 hf8 hf8b)
            | (refine stepAppP (w7.alloc (.cells (laxP lax).cells 38)) (by rfl) _ _ (by rfl) (.slice (some ⟨w7.heap.size, 0, none⟩) 1 1) v7 [laxP lax] (lnPuts x) (by rfl) (by rfl) (own_one w7 (laxP lax)) (HO7.out.own.fr ((Fr.refl [] _).alloc _) (by simp)) HLX.out ?_; intro v8 w8 ho8 hf8 _; have hf8b : Fr [] wb w8 := (HF7.out.trans ((Fr.refl _ _).alloc _)).step hf8 (fun t ht => .inr (by have := HF7.out.size; simp [Value.ownBlock] at ht; omega)); have HO8 := Lib.hid ho8; have HF8 := Lib.hid hf8b; clear ho8 hf8 hf8b)
            | (go_simp; go_at_call 23; refine (HCE.out _ _ (HG.out.fr (((HF10.out.trans HFX.out).trans HFB.out).trans HF8.out) (by simp)) HO8.out).mono ?_; rintro ε w9 ⟨s9, g9, cap9, rfl, hf9, r9⟩; have HF9b := Lib.hid ((HFB.out.trans HF8.out).trans hf9); clear hf9))
          all_goals
            have HR9 := Lib.hid r9
            clear d0 d1 d2 d3 d4 d5 d6 z0 z1 z2 z3 z4 z5 z6 b0 b1 b2 b3 b4 b5 b6 b7 b8 b9 b10 b11 y0 y1 y2 y3 y4 y5 y6 y7 y8 y9 y10 y11 r9 hki hwP hPN hPN1 hwX hXlt HE123 HCE HCAL HO7 HF7 HO8 HF8 HLB HBX HD10 HAT10
            refine NoPanic.normal ?_
            go_wp2_with fail
            go_simp
            go_meet
            exact ⟨s9, g9, cap9, rfl, rfl, rfl, HR9, HF9b⟩
        obtain ⟨s9, g11, cap11, rfl, rfl, rfl, hr9, hf9⟩ := hcut
        have r9 := hr9.out
        have e1 := hf9.out.cell HE123.out.1 (by simp)
        have e2 := hf9.out.cell HE123.out.2.1 (by simp)
        have e3 := hf9.out.cell HE123.out.2.2 (by simp)
        clear d0 d1 d2 d3 d4 d5 d6 z0 z1 z2 z3 z4 z5 z6 b0 b1 b2 b3 b4 b5 b6 b7 b8 b9 b10 b11
        go_upto_region 24 with fail
        go_quiet (fail)
        go_wp2_with fail
        go_roundw
        case rel => exact ⟨k + 1, by omega, by go_num, Lib.hid (HFX.out.trans (hf9.out.drewN _))⟩
        case measure => simp [intOf]; omega
theorem clr_walk (hV : ValidSaid) {ea : Addr} {B0 : Nat} (l : List LnD) (v : Value) (lax : Bool) (w : World) (hG : Gl B0 ea w) (hlen : l.length ≤ 9223372036854775807) (hok : ∀ e, e ∈ l → LnOk e) (hP : LinesIn w v l) :
    Calls Tryz.prog 6 #[v, .bool lax] w fun e w' => e = .returned (.bool true) ∧ Fr [] w w' := by
  cases hf : fitLs l with
  | false => exact clr_early l v lax w hlen hok hP hf
  | true => exact clr_main hV l v lax w hG hok hP hf
end Go.Proofs.YtaaogjhaokaggaaGreatDoor
