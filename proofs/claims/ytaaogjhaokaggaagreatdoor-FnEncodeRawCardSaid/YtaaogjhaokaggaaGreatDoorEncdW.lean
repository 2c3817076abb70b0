import Derived.Test.YtaaogjhaokaggaaGreatDoorSpecW
import Derived.Test.YtaaogjhaokaggaaGreatDoorSpecP
import Derived.Test.YtaaogjhaokaggaaGreatDoorLawX
import Derived.Deep.LoopGhost
import Derived.Deep.RegionLaw
import Derived.Test.YtaaogjhaokaggaaGreatDoorOpenP
import Derived.BigQuiet
namespace Go.Proofs.YtaaogjhaokaggaaGreatDoor
open Go.RowKit

theorem results_tmp4 {fn : Func} {t u v x : Tmp} (h : fn.results = #[.tmp t, .tmp u, .tmp v, .tmp x]) (tmps : Array Value) (P : Program) (w : World) :
    (results fn tmps).run P w = .ok (.tuple #[tmps.getD t undef, tmps.getD u undef, tmps.getD v undef, tmps.getD x undef]) w := by
  simp [results, h]
/-- How the world stands at the head of Encoded's loop. -/
structure EncdAt (l : List PutD) (w : World) (k : Nat) (E : Sp) (vl : Value) (wr : World) : Prop where
  ks : sps l k = some E
  row : SR wr w.heap.size (spCells E)
  fr : Fr [] w wr
  own : OwnC wr 49 3 vl k (spStoodL l k)
  new : ∀ g, vl.ownBlock = some g → w.heap.size + 1 ≤ g
/-- What Encoded answers. -/
def EncdRes (l : List PutD) (w : World) (e : Ending) (w' : World) : Prop := Fr [] w w' ∧
  ((∃ E vl, sps l l.length = some E ∧ e = .returned (.tuple #[.string ⟨E.buf.toArray⟩, vl, .bool true, .bool true]) ∧ OwnC w' 49 3 vl l.length (spStoodL l l.length) ∧ ∀ g, vl.ownBlock = some g → w.heap.size ≤ g) ∨
   ((∃ k E p, l[k]? = some p ∧ sps l k = some E ∧ spBad p = true) ∧ e = .returned (.tuple #[.string ⟨#[]⟩, .slice none 0 0, .bool false, .bool true])) ∨
   e = .returned (.tuple #[.string ⟨#[]⟩, .slice none 0 0, .bool true, .bool false]))
/-- What spec.Put asks of the state. -/
theorem sps_fit {l : List PutD} (hl : ∀ p, p ∈ l → PutBd p) {k : Nat} {E : Sp} (h : sps l k = some E) : E.buf.length ≤ 20000 * k ∧ 0 < E.prec ∧ (E.stale = false → E.start ≤ E.buf.length) := by
  obtain ⟨st, h1, ⟨p, g, s, rfl, hi⟩, _⟩ := sps_sts h
  refine ⟨(len_sts hl h1).1, ?_, hi.ok⟩
  rcases hi.prec with ⟨h, _⟩ | ⟨h, h2⟩
  · show 0 < p
    omega
  · show 0 < p
    omega
theorem EncdAt.step {l : List PutD} {w : World} {k : Nat} {E : Sp} {vl : Value} {wr w2 : World} (h : EncdAt l w k E vl wr) (f : Fr [w.heap.size] wr w2) :
    Fr [] w w2 ∧ OwnC w2 49 3 vl k (spStoodL l k) := by
  refine ⟨h.fr.step f (fun t ht => .inr (by simp at ht; omega)), h.own.fr f (fun g hg hm => ?_)⟩
  have := h.new g hg
  simp at hm
  omega
theorem EncdAt.next {l : List PutD} {w : World} {k : Nat} {E E2 : Sp} {a5 a6 : Option Addr} {cp5 cp6 : Nat} {wr w2 w5 : World} (h : EncdAt l w k E (.slice a5 k cp5) wr) (f : Fr [w.heap.size] wr w2) (hr : SR w2 w.heap.size (spCells E2)) (hst : sps l (k + 1) = some E2)
    (ho : OwnC w5 49 3 (.slice a6 (k + 1) cp6) (k + 1) (spStoodL l k ++ #[Value.bool E2.err, .bool E2.out, .int .i64 E2.buf.length].toList)) (hf : Fr (Value.slice a5 k cp5).ownBlock.toList w2.drew w5)
    (hb : (Value.slice a6 (k + 1) cp6).ownBlock = (Value.slice a5 k cp5).ownBlock ∨ ∃ g, (Value.slice a6 (k + 1) cp6).ownBlock = some g ∧ w2.drew.heap.size ≤ g) : EncdAt l w (k + 1) E2 (.slice a6 (k + 1) cp6) w5 := by
  obtain ⟨s1, s2⟩ := h.step f
  have hsz : w.heap.size < w2.heap.size := (Array.getElem?_eq_some_iff.1 hr).1
  have hno : w.heap.size ∉ (Value.slice a5 k cp5).ownBlock.toList := fun hm => by
    have := h.new w.heap.size (by simpa using hm)
    omega
  refine ⟨hst, hr.drew.fr hf hno, s1.drew.step hf (fun t ht => .inr (by have := h.new t (by simpa using ht); omega)), ?_, fun g hg => ?_⟩
  · have e : spStoodL l (k + 1) = spStoodL l k ++ #[Value.bool E2.err, .bool E2.out, .int .i64 E2.buf.length].toList := by
      rw [spStoodL, hst]; rfl
    rw [e]
    exact ho
  · rcases hb with hb | ⟨g', hb, hb'⟩
    · exact h.new g (hb ▸ hg)
    · rw [hb] at hg; cases hg
      have : w2.drew.heap.size = w2.heap.size := rfl
      omega
set_option maxRecDepth 100000 in
set_option maxHeartbeats 4000000 in
theorem encoded_any {B0 : Nat} {ea : Addr} (l : List PutD) (v : Value) (w : World) (hG : Gl B0 ea w) (hl : ∀ p, p ∈ l → PutBd p) (hn : l.length ≤ 200) (hP : PutsC w v l) :
    Calls Tryz.prog 28 #[v] w (EncdRes l w) := by
  have hsf : ∀ (a : Addr) (k : FloatKind) (b : Nat) (m : Mode) (w : World), (store a (.float k b) m).run Tryz.prog w = stored Tryz.prog w a (.float k b) m := fun a k b m w => run_store Tryz.prog w a _ m rfl
  have hshape : ∃ a c, v = .slice a l.length c := by
    obtain ⟨a, c, rfl, _⟩ := hP
    exact ⟨a, c, rfl⟩
  obtain ⟨a, c, rfl⟩ := hshape
  have HP := Lib.hid hP
  have HG := Lib.hid hG
  have HL := Lib.hid hl
  clear hP hG hl
  have HST : Hid (EncdAt l w 0 Sp0 (.slice none 0 0) (w.alloc (.cells (spCells Sp0) 94))) := Lib.hid ⟨rfl, heap_alloc_new w _, (Fr.refl [] w).alloc _, OwnC.nil _ _ _, by simp [Value.ownBlock]⟩
  go_enter Tryz.func28, Tryz.ntmps28
  go_wp2
  obtain ⟨w0, hw0⟩ : ∃ x, x = w.alloc (.cells (spCells Sp0) 94) := ⟨_, rfl⟩
  have hw0' : w.alloc (.cells #[.string ⟨#[]⟩, .int .i64 0, .int .i64 0, .bool false, .string ⟨#[]⟩, .bool false, .bool false, .bool false, .int .i64 1, .bool false, .bool false] 94) = w0 := by rw [hw0]; rfl
  rw [hw0']
  rw [← hw0] at HST
  clear hw0 hw0'
  go_loopw [3, 13] (fun vl i wr => ∃ (k : Nat) (E : Sp), k ≤ l.length ∧ i = .int .i64 k ∧ Hid (EncdAt l w k E vl wr)) (fun _ i _ => l.length - (intOf i).toNat)
  case atStart => exact ⟨0, Sp0, by omega, rfl, HST⟩
  case round =>
    obtain ⟨k, E, hk, rfl, HE⟩ := hrel
    obtain ⟨a5, cp5, rfl⟩ := HE.out.own.shape
    by_cases hlt : k < l.length
    · obtain ⟨p, hp⟩ : ∃ p, l[k]? = some p := ⟨l[k], by simp [hlt]⟩
      have hbd := HL.out p (List.mem_of_getElem? hp)
      have hfit := sps_fit HL.out HE.out.ks
      obtain ⟨g, off, cap, hv, hcell⟩ := (HP.out.fr HE.out.fr).at (by omega)
      have hc := hcell k p hp
      clear hcell
      have hGv : ∀ wx, Fr [] wr wx → ∀ wy, Fr [w.heap.size] wx wy → Gv B0 ea wy := fun wx f1 wy f2 => ((HG.out.fr (HE.out.fr.trans f1) (by simp)).toGv).fr f2 (fun s hs => by simp at hs; subst hs; exact HG.out.big)
      cases hv
      have hltI : (k : Int) < l.length := by omega
      obtain ⟨op, key, value, ⟨kind, s, vn, u, f, x⟩, n, m, z⟩ := p
      simp only [PutD.cells] at hc
      have c0 : wr.cell? ⟨g, off + k * 12, none⟩ = _ := hc 0 _ rfl
      have c1 := hc 1 _ rfl
      have c2 := hc 2 _ rfl
      have c3 := hc 3 _ rfl
      have c4 := hc 4 _ rfl
      have c5 := hc 5 _ rfl
      have c6 := hc 6 _ rfl
      have c7 := hc 7 _ rfl
      have c8 := hc 8 _ rfl
      have c9 := hc 9 _ rfl
      have c10 := hc 10 _ rfl
      have c11 := hc 11 _ rfl
      have hfA : Fr [] wr (wr.alloc (.cells #[.int .i64 op, .string key, .string value, .int .i64 kind, .string s, .int .i64 vn, .int .u64 u, .float .f64 f, .bool x, .int .i64 n, .int .i64 m, .bool z] 38)) := (Fr.refl _ _).alloc _
      have hend : ∀ (w2 : World), Fr [] wr w2 → spBad ⟨op, key, value, ⟨kind, s, vn, u, f, x⟩, n, m, z⟩ = true → EncdRes l w (.returned (.tuple #[.string ⟨#[]⟩, .slice none 0 0, .bool false, .bool true])) w2 := fun w2 f2 hb => ⟨HE.out.fr.trans f2, .inr (.inl ⟨⟨k, E, _, hp, HE.out.ks, hb⟩, rfl⟩)⟩
      have HEND := Lib.hid hend
      clear hend
      by_cases h2 : op = 2 ∨ op = 11
      · have hcb := canBe_any ⟨kind, s, vn, u, f, x⟩ (Nat.le_trans hbd.s (by decide)) (wr.alloc (.cells #[.int .i64 op, .string key, .string value, .int .i64 kind, .string s, .int .i64 vn, .int .u64 u, .float .f64 f, .bool x, .int .i64 n, .int .i64 m, .bool z] 38))
        simp only [VD.cells] at hcb
        cases hcan : (⟨kind, s, vn, u, f, x⟩ : VD).can with
        | false =>
          rw [hcan] at hcb
          have hb : spBad ⟨op, key, value, ⟨kind, s, vn, u, f, x⟩, n, m, z⟩ = true := by
            unfold spBad
            rw [Bool.or_eq_true]
            refine .inl ?_
            rw [Bool.and_eq_true]
            exact ⟨decide_eq_true h2, by rw [hcan]; rfl⟩
          have HB := Lib.hid hb
          have HCB := Lib.hid hcb
          have HFA := Lib.hid hfA
          clear hb hcb hcan hfA hbd hfit hc hGv hp
          rcases h2 with rfl | rfl
          all_goals
            go_wp2_with (go_at_call 16; refine HCB.out.mono ?_; rintro e w2 ⟨rfl, hf2⟩; have HF2 := Lib.hid hf2; clear hf2)
            ((try simp only [Exit.inBlock, Exit.then]); refine bodyPost_ret (results_tmp4 rfl _ _ _) rfl ?_)
            exact HEND.out _ (HFA.out.trans HF2.out) HB.out
        | true =>
          rw [hcan] at hcb
          have HCB := Lib.hid hcb
          clear hcb
          have hb : spBad ⟨op, key, value, ⟨kind, s, vn, u, f, x⟩, n, m, z⟩ = false := by
            unfold spBad
            simp only [hcan]
            rw [Bool.or_eq_false_iff]
            refine ⟨by simp, ?_⟩
            rw [decide_eq_false (show ¬ op = 6 by omega)]
            rfl
          clear hcan
          rcases h2 with rfl | rfl
          · have HNW : Hid ((wr.alloc (.cells #[.int .i64 2, .string key, .string value, .int .i64 kind, .string s, .int .i64 vn, .int .u64 u, .float .f64 f, .bool x, .int .i64 n, .int .i64 m, .bool z] 38)).heap[wr.heap.size]? = some (.cells #[.int .i64 2, .string key, .string value, .int .i64 kind, .string s, .int .i64 vn, .int .u64 u, .float .f64 f, .bool x, .int .i64 n, .int .i64 m, .bool z] 38 (0, 0))) := Lib.hid (heap_alloc_new _ _)
            have HFA := Lib.hid hfA
            clear hfA
            have HPP := Lib.hid hp
            have HBB := Lib.hid hb
            clear hp hb
            go_upto_region 7 with (go_at_call 16; refine HCB.out.mono ?_; rintro e w1 ⟨rfl, hf1⟩; have HF1 := Lib.hid hf1; clear hf1; have HNX := Lib.hid (HF1.out.blk HNW.out (by simp)); have b0 : w1.cell? ⟨wr.heap.size, 0, none⟩ = some _ := cell_of_row w1 wr.heap.size 0 _ 38 _ HNX.out)
            have hfX := Lib.hid (HFA.out.trans HF1.out)
            have b0 : w1.cell? ⟨wr.heap.size, 0, none⟩ = some _ := cell_of_row w1 wr.heap.size 0 _ 38 _ HNX.out
            have b1 : w1.cell? ⟨wr.heap.size, 1, none⟩ = some _ := cell_of_row w1 wr.heap.size 1 _ 38 _ HNX.out
            have b2 : w1.cell? ⟨wr.heap.size, 2, none⟩ = some _ := cell_of_row w1 wr.heap.size 2 _ 38 _ HNX.out
            have b3 : w1.cell? ⟨wr.heap.size, 3, none⟩ = some _ := cell_of_row w1 wr.heap.size 3 _ 38 _ HNX.out
            have b4 : w1.cell? ⟨wr.heap.size, 4, none⟩ = some _ := cell_of_row w1 wr.heap.size 4 _ 38 _ HNX.out
            have b5 : w1.cell? ⟨wr.heap.size, 5, none⟩ = some _ := cell_of_row w1 wr.heap.size 5 _ 38 _ HNX.out
            have b6 : w1.cell? ⟨wr.heap.size, 6, none⟩ = some _ := cell_of_row w1 wr.heap.size 6 _ 38 _ HNX.out
            have b7 : w1.cell? ⟨wr.heap.size, 7, none⟩ = some _ := cell_of_row w1 wr.heap.size 7 _ 38 _ HNX.out
            have b8 : w1.cell? ⟨wr.heap.size, 8, none⟩ = some _ := cell_of_row w1 wr.heap.size 8 _ 38 _ HNX.out
            have b9 : w1.cell? ⟨wr.heap.size, 9, none⟩ = some _ := cell_of_row w1 wr.heap.size 9 _ 38 _ HNX.out
            have b10 : w1.cell? ⟨wr.heap.size, 10, none⟩ = some _ := cell_of_row w1 wr.heap.size 10 _ 38 _ HNX.out
            have b11 : w1.cell? ⟨wr.heap.size, 11, none⟩ = some _ := cell_of_row w1 wr.heap.size 11 _ 38 _ HNX.out
            have hp := HPP.out
            have hb := HBB.out
            have hS := sput_any E ⟨2, key, value, ⟨kind, s, vn, u, f, x⟩, n, m, z⟩ hbd hb w.heap.size w1 (hGv _ hfX.out) (by omega) hfit.2.1 hfit.2.2 (HE.out.row.fr hfX.out (by simp))
            simp only [PutD.cells] at hS
            cases hput : E.put ⟨2, key, value, ⟨kind, s, vn, u, f, x⟩, n, m, z⟩ with
            | none =>
              unfold PutRes at hS
              rw [hput] at hS
              have HS := Lib.hid hS
              clear hS hput hp hb hbd hfit hc hGv
              go_wp2_with ((go_at_call 52; refine HS.out.mono ?_; rintro e w2 ⟨hf2, rfl⟩; have HF2 := Lib.hid hf2; clear hf2))
              ((try simp only [Exit.inBlock, Exit.then]); refine bodyPost_ret (results_tmp4 rfl _ _ _) rfl ?_)
              exact ⟨(HE.out.fr.trans hfX.out).step HF2.out (fun t ht => .inr (by simp at ht; omega)), .inr (.inr rfl)⟩
            | some E2 =>
              unfold PutRes at hS
              rw [hput] at hS
              have HS := Lib.hid hS
              have HK := Lib.hid (sps_next HE.out.ks hp hb hput)
              clear hS hput hp hb hbd hfit hc hGv
              go_upto_region 9 with ((go_at_call 52; refine HS.out.mono ?_; rintro e w2 ⟨hf2, rfl, hr2⟩; have HF2 := Lib.hid hf2; have HR2 := Lib.hid hr2; clear hf2 hr2))
              clear c0 c1 c2 c3 c4 c5 c6 c7 c8 c9 c10 c11 b0 b1 b2 b3 b4 b5 b6 b7 b8 b9 b10 b11
              have HFT : Hid (Fr [w.heap.size] wr w2) := Lib.hid ((hfX.out.sub (by simp)).trans HF2.out)
              obtain ⟨bf, st0, prt, bd, ky, er, ou, lx, pc, bg, sl⟩ := E2
              have hR2 : SR w2.drew w.heap.size #[.string ⟨bf.toArray⟩, .int .i64 st0, .int .i64 prt, .bool bd, .string ⟨ky.toArray⟩, .bool er, .bool ou, .bool lx, .int .i64 pc, .bool bg, .bool sl] := HR2.out
              obtain ⟨⟨d0, -, -, -, -, d5, d6, -⟩, -⟩ := hR2.all
              obtain ⟨i49, hi49, hz49, hs49, hb49⟩ := parts_c info49
              have hO : OwnC w2.drew 49 3 (.slice a5 k cp5) k (spStoodL l k) := (HE.out.step HFT.out).2
              have HO := Lib.hid hO
              clear hR2 hO
              go_region_law (refine stepApp1C w2.drew (by rfl) _ _ _ (by rfl) 49 i49 _ Tryz.underlying45 hi49 hz49 3 hs49 hb49 rfl (.slice a5 k cp5) k (spStoodL l k) #[.bool er, .bool ou, .int .i64 bf.length] rfl (by simp [Value.oneCell']) (by rfl) (by rfl) HO.out (by omega) ?_; intro v5 w5 ho5 hf5 hb5; obtain ⟨a6, cp6, rfl⟩ := ho5.shape; have HO5 := Lib.hid ho5; clear ho5; have HF5 := Lib.hid hf5; have HB5 := Lib.hid hb5; clear hf5 hb5)
              all_goals
                have hnx := HE.out.next HFT.out HR2.out HK.out HO5.out HF5.out HB5.out
                have HNX := Lib.hid hnx
                clear hnx
                go_simp
                go_wp2_with fail
                go_roundw
                case rel => exact ⟨k + 1, _, by omega, by go_num, HNX⟩
                case measure => simp [intOf]; omega
          · have HNW : Hid ((wr.alloc (.cells #[.int .i64 11, .string key, .string value, .int .i64 kind, .string s, .int .i64 vn, .int .u64 u, .float .f64 f, .bool x, .int .i64 n, .int .i64 m, .bool z] 38)).heap[wr.heap.size]? = some (.cells #[.int .i64 11, .string key, .string value, .int .i64 kind, .string s, .int .i64 vn, .int .u64 u, .float .f64 f, .bool x, .int .i64 n, .int .i64 m, .bool z] 38 (0, 0))) := Lib.hid (heap_alloc_new _ _)
            have HFA := Lib.hid hfA
            clear hfA
            have HPP := Lib.hid hp
            have HBB := Lib.hid hb
            clear hp hb
            go_upto_region 7 with (go_at_call 16; refine HCB.out.mono ?_; rintro e w1 ⟨rfl, hf1⟩; have HF1 := Lib.hid hf1; clear hf1; have HNX := Lib.hid (HF1.out.blk HNW.out (by simp)); have b0 : w1.cell? ⟨wr.heap.size, 0, none⟩ = some _ := cell_of_row w1 wr.heap.size 0 _ 38 _ HNX.out)
            have hfX := Lib.hid (HFA.out.trans HF1.out)
            have b0 : w1.cell? ⟨wr.heap.size, 0, none⟩ = some _ := cell_of_row w1 wr.heap.size 0 _ 38 _ HNX.out
            have b1 : w1.cell? ⟨wr.heap.size, 1, none⟩ = some _ := cell_of_row w1 wr.heap.size 1 _ 38 _ HNX.out
            have b2 : w1.cell? ⟨wr.heap.size, 2, none⟩ = some _ := cell_of_row w1 wr.heap.size 2 _ 38 _ HNX.out
            have b3 : w1.cell? ⟨wr.heap.size, 3, none⟩ = some _ := cell_of_row w1 wr.heap.size 3 _ 38 _ HNX.out
            have b4 : w1.cell? ⟨wr.heap.size, 4, none⟩ = some _ := cell_of_row w1 wr.heap.size 4 _ 38 _ HNX.out
            have b5 : w1.cell? ⟨wr.heap.size, 5, none⟩ = some _ := cell_of_row w1 wr.heap.size 5 _ 38 _ HNX.out
            have b6 : w1.cell? ⟨wr.heap.size, 6, none⟩ = some _ := cell_of_row w1 wr.heap.size 6 _ 38 _ HNX.out
            have b7 : w1.cell? ⟨wr.heap.size, 7, none⟩ = some _ := cell_of_row w1 wr.heap.size 7 _ 38 _ HNX.out
            have b8 : w1.cell? ⟨wr.heap.size, 8, none⟩ = some _ := cell_of_row w1 wr.heap.size 8 _ 38 _ HNX.out
            have b9 : w1.cell? ⟨wr.heap.size, 9, none⟩ = some _ := cell_of_row w1 wr.heap.size 9 _ 38 _ HNX.out
            have b10 : w1.cell? ⟨wr.heap.size, 10, none⟩ = some _ := cell_of_row w1 wr.heap.size 10 _ 38 _ HNX.out
            have b11 : w1.cell? ⟨wr.heap.size, 11, none⟩ = some _ := cell_of_row w1 wr.heap.size 11 _ 38 _ HNX.out
            have hp := HPP.out
            have hb := HBB.out
            have hS := sput_any E ⟨11, key, value, ⟨kind, s, vn, u, f, x⟩, n, m, z⟩ hbd hb w.heap.size w1 (hGv _ hfX.out) (by omega) hfit.2.1 hfit.2.2 (HE.out.row.fr hfX.out (by simp))
            simp only [PutD.cells] at hS
            cases hput : E.put ⟨11, key, value, ⟨kind, s, vn, u, f, x⟩, n, m, z⟩ with
            | none =>
              unfold PutRes at hS
              rw [hput] at hS
              have HS := Lib.hid hS
              clear hS hput hp hb hbd hfit hc hGv
              go_wp2_with ((go_at_call 52; refine HS.out.mono ?_; rintro e w2 ⟨hf2, rfl⟩; have HF2 := Lib.hid hf2; clear hf2))
              ((try simp only [Exit.inBlock, Exit.then]); refine bodyPost_ret (results_tmp4 rfl _ _ _) rfl ?_)
              exact ⟨(HE.out.fr.trans hfX.out).step HF2.out (fun t ht => .inr (by simp at ht; omega)), .inr (.inr rfl)⟩
            | some E2 =>
              unfold PutRes at hS
              rw [hput] at hS
              have HS := Lib.hid hS
              have HK := Lib.hid (sps_next HE.out.ks hp hb hput)
              clear hS hput hp hb hbd hfit hc hGv
              go_upto_region 9 with ((go_at_call 52; refine HS.out.mono ?_; rintro e w2 ⟨hf2, rfl, hr2⟩; have HF2 := Lib.hid hf2; have HR2 := Lib.hid hr2; clear hf2 hr2))
              clear c0 c1 c2 c3 c4 c5 c6 c7 c8 c9 c10 c11 b0 b1 b2 b3 b4 b5 b6 b7 b8 b9 b10 b11
              have HFT : Hid (Fr [w.heap.size] wr w2) := Lib.hid ((hfX.out.sub (by simp)).trans HF2.out)
              obtain ⟨bf, st0, prt, bd, ky, er, ou, lx, pc, bg, sl⟩ := E2
              have hR2 : SR w2.drew w.heap.size #[.string ⟨bf.toArray⟩, .int .i64 st0, .int .i64 prt, .bool bd, .string ⟨ky.toArray⟩, .bool er, .bool ou, .bool lx, .int .i64 pc, .bool bg, .bool sl] := HR2.out
              obtain ⟨⟨d0, -, -, -, -, d5, d6, -⟩, -⟩ := hR2.all
              obtain ⟨i49, hi49, hz49, hs49, hb49⟩ := parts_c info49
              have hO : OwnC w2.drew 49 3 (.slice a5 k cp5) k (spStoodL l k) := (HE.out.step HFT.out).2
              have HO := Lib.hid hO
              clear hR2 hO
              go_region_law (refine stepApp1C w2.drew (by rfl) _ _ _ (by rfl) 49 i49 _ Tryz.underlying45 hi49 hz49 3 hs49 hb49 rfl (.slice a5 k cp5) k (spStoodL l k) #[.bool er, .bool ou, .int .i64 bf.length] rfl (by simp [Value.oneCell']) (by rfl) (by rfl) HO.out (by omega) ?_; intro v5 w5 ho5 hf5 hb5; obtain ⟨a6, cp6, rfl⟩ := ho5.shape; have HO5 := Lib.hid ho5; clear ho5; have HF5 := Lib.hid hf5; have HB5 := Lib.hid hb5; clear hf5 hb5)
              all_goals
                have hnx := HE.out.next HFT.out HR2.out HK.out HO5.out HF5.out HB5.out
                have HNX := Lib.hid hnx
                clear hnx
                go_simp
                go_wp2_with fail
                go_roundw
                case rel => exact ⟨k + 1, _, by omega, by go_num, HNX⟩
                case measure => simp [intOf]; omega
      · by_cases h6 : op = 6
        · subst h6
          by_cases hbn : n < 0 ∨ 3 < n
          · have hb : spBad ⟨6, key, value, ⟨kind, s, vn, u, f, x⟩, n, m, z⟩ = true := by
              unfold spBad
              rw [Bool.or_eq_true]
              refine .inr ?_
              rw [Bool.and_eq_true]
              exact ⟨rfl, decide_eq_true hbn⟩
            have HB := Lib.hid hb
            have HFA := Lib.hid hfA
            clear hb hfA hbd hfit hc hGv hp h2
            by_cases hn0 : n < 0
            · clear hbn
              go_wp2_with fail
              ((try simp only [Exit.inBlock, Exit.then]); refine bodyPost_ret (results_tmp4 rfl _ _ _) rfl ?_)
              exact HEND.out _ HFA.out HB.out
            · have hn3 : 3 < n := by omega
              clear hbn
              go_wp2_with fail
              ((try simp only [Exit.inBlock, Exit.then]); refine bodyPost_ret (results_tmp4 rfl _ _ _) rfl ?_)
              exact HEND.out _ HFA.out HB.out
          · have hn0 : ¬ n < 0 := by omega
            have hn3 : ¬ 3 < n := by omega
            have hb : spBad ⟨6, key, value, ⟨kind, s, vn, u, f, x⟩, n, m, z⟩ = false := by
              unfold spBad
              rw [Bool.or_eq_false_iff]
              refine ⟨rfl, ?_⟩
              rw [decide_eq_false hbn]
              rfl
            clear hbn h2
            have HNW : Hid ((wr.alloc (.cells #[.int .i64 6, .string key, .string value, .int .i64 kind, .string s, .int .i64 vn, .int .u64 u, .float .f64 f, .bool x, .int .i64 n, .int .i64 m, .bool z] 38)).heap[wr.heap.size]? = some (.cells #[.int .i64 6, .string key, .string value, .int .i64 kind, .string s, .int .i64 vn, .int .u64 u, .float .f64 f, .bool x, .int .i64 n, .int .i64 m, .bool z] 38 (0, 0))) := Lib.hid (heap_alloc_new _ _)
            have HFA := Lib.hid hfA
            clear hfA
            have HPP := Lib.hid hp
            have HBB := Lib.hid hb
            clear hp hb
            go_upto_region 7 with fail
            obtain ⟨w1, hw1⟩ : ∃ q, q = wr.alloc (.cells #[.int .i64 6, .string key, .string value, .int .i64 kind, .string s, .int .i64 vn, .int .u64 u, .float .f64 f, .bool x, .int .i64 n, .int .i64 m, .bool z] 38) := ⟨_, rfl⟩
            rw [← hw1] at HNW HFA ⊢
            clear hw1
            have hfX := HFA
            have HNX := HNW
            have b0 : w1.cell? ⟨wr.heap.size, 0, none⟩ = some _ := cell_of_row w1 wr.heap.size 0 _ 38 _ HNX.out
            have b1 : w1.cell? ⟨wr.heap.size, 1, none⟩ = some _ := cell_of_row w1 wr.heap.size 1 _ 38 _ HNX.out
            have b2 : w1.cell? ⟨wr.heap.size, 2, none⟩ = some _ := cell_of_row w1 wr.heap.size 2 _ 38 _ HNX.out
            have b3 : w1.cell? ⟨wr.heap.size, 3, none⟩ = some _ := cell_of_row w1 wr.heap.size 3 _ 38 _ HNX.out
            have b4 : w1.cell? ⟨wr.heap.size, 4, none⟩ = some _ := cell_of_row w1 wr.heap.size 4 _ 38 _ HNX.out
            have b5 : w1.cell? ⟨wr.heap.size, 5, none⟩ = some _ := cell_of_row w1 wr.heap.size 5 _ 38 _ HNX.out
            have b6 : w1.cell? ⟨wr.heap.size, 6, none⟩ = some _ := cell_of_row w1 wr.heap.size 6 _ 38 _ HNX.out
            have b7 : w1.cell? ⟨wr.heap.size, 7, none⟩ = some _ := cell_of_row w1 wr.heap.size 7 _ 38 _ HNX.out
            have b8 : w1.cell? ⟨wr.heap.size, 8, none⟩ = some _ := cell_of_row w1 wr.heap.size 8 _ 38 _ HNX.out
            have b9 : w1.cell? ⟨wr.heap.size, 9, none⟩ = some _ := cell_of_row w1 wr.heap.size 9 _ 38 _ HNX.out
            have b10 : w1.cell? ⟨wr.heap.size, 10, none⟩ = some _ := cell_of_row w1 wr.heap.size 10 _ 38 _ HNX.out
            have b11 : w1.cell? ⟨wr.heap.size, 11, none⟩ = some _ := cell_of_row w1 wr.heap.size 11 _ 38 _ HNX.out
            have hp := HPP.out
            have hb := HBB.out
            have hS := sput_any E ⟨6, key, value, ⟨kind, s, vn, u, f, x⟩, n, m, z⟩ hbd hb w.heap.size w1 (hGv _ hfX.out) (by omega) hfit.2.1 hfit.2.2 (HE.out.row.fr hfX.out (by simp))
            simp only [PutD.cells] at hS
            cases hput : E.put ⟨6, key, value, ⟨kind, s, vn, u, f, x⟩, n, m, z⟩ with
            | none =>
              unfold PutRes at hS
              rw [hput] at hS
              have HS := Lib.hid hS
              clear hS hput hp hb hbd hfit hc hGv
              go_wp2_with ((go_at_call 52; refine HS.out.mono ?_; rintro e w2 ⟨hf2, rfl⟩; have HF2 := Lib.hid hf2; clear hf2))
              ((try simp only [Exit.inBlock, Exit.then]); refine bodyPost_ret (results_tmp4 rfl _ _ _) rfl ?_)
              exact ⟨(HE.out.fr.trans hfX.out).step HF2.out (fun t ht => .inr (by simp at ht; omega)), .inr (.inr rfl)⟩
            | some E2 =>
              unfold PutRes at hS
              rw [hput] at hS
              have HS := Lib.hid hS
              have HK := Lib.hid (sps_next HE.out.ks hp hb hput)
              clear hS hput hp hb hbd hfit hc hGv
              go_upto_region 9 with ((go_at_call 52; refine HS.out.mono ?_; rintro e w2 ⟨hf2, rfl, hr2⟩; have HF2 := Lib.hid hf2; have HR2 := Lib.hid hr2; clear hf2 hr2))
              clear c0 c1 c2 c3 c4 c5 c6 c7 c8 c9 c10 c11 b0 b1 b2 b3 b4 b5 b6 b7 b8 b9 b10 b11
              have HFT : Hid (Fr [w.heap.size] wr w2) := Lib.hid ((hfX.out.sub (by simp)).trans HF2.out)
              obtain ⟨bf, st0, prt, bd, ky, er, ou, lx, pc, bg, sl⟩ := E2
              have hR2 : SR w2.drew w.heap.size #[.string ⟨bf.toArray⟩, .int .i64 st0, .int .i64 prt, .bool bd, .string ⟨ky.toArray⟩, .bool er, .bool ou, .bool lx, .int .i64 pc, .bool bg, .bool sl] := HR2.out
              obtain ⟨⟨d0, -, -, -, -, d5, d6, -⟩, -⟩ := hR2.all
              obtain ⟨i49, hi49, hz49, hs49, hb49⟩ := parts_c info49
              have hO : OwnC w2.drew 49 3 (.slice a5 k cp5) k (spStoodL l k) := (HE.out.step HFT.out).2
              have HO := Lib.hid hO
              clear hR2 hO
              go_region_law (refine stepApp1C w2.drew (by rfl) _ _ _ (by rfl) 49 i49 _ Tryz.underlying45 hi49 hz49 3 hs49 hb49 rfl (.slice a5 k cp5) k (spStoodL l k) #[.bool er, .bool ou, .int .i64 bf.length] rfl (by simp [Value.oneCell']) (by rfl) (by rfl) HO.out (by omega) ?_; intro v5 w5 ho5 hf5 hb5; obtain ⟨a6, cp6, rfl⟩ := ho5.shape; have HO5 := Lib.hid ho5; clear ho5; have HF5 := Lib.hid hf5; have HB5 := Lib.hid hb5; clear hf5 hb5)
              all_goals
                have hnx := HE.out.next HFT.out HR2.out HK.out HO5.out HF5.out HB5.out
                have HNX := Lib.hid hnx
                clear hnx
                go_simp
                go_wp2_with fail
                go_roundw
                case rel => exact ⟨k + 1, _, by omega, by go_num, HNX⟩
                case measure => simp [intOf]; omega
        · have o2 : (op == 2) = false := by rw [beq_eq_false_iff_ne]; omega
          have o11 : (op == 11) = false := by rw [beq_eq_false_iff_ne]; omega
          have o6 : (op == 6) = false := by rw [beq_eq_false_iff_ne]; omega
          have hb : spBad ⟨op, key, value, ⟨kind, s, vn, u, f, x⟩, n, m, z⟩ = false := by
            unfold spBad
            rw [decide_eq_false h2, decide_eq_false h6]
            rfl
          clear h2 h6
          have HNW : Hid ((wr.alloc (.cells #[.int .i64 op, .string key, .string value, .int .i64 kind, .string s, .int .i64 vn, .int .u64 u, .float .f64 f, .bool x, .int .i64 n, .int .i64 m, .bool z] 38)).heap[wr.heap.size]? = some (.cells #[.int .i64 op, .string key, .string value, .int .i64 kind, .string s, .int .i64 vn, .int .u64 u, .float .f64 f, .bool x, .int .i64 n, .int .i64 m, .bool z] 38 (0, 0))) := Lib.hid (heap_alloc_new _ _)
          have HFA := Lib.hid hfA
          clear hfA
          have HPP := Lib.hid hp
          have HBB := Lib.hid hb
          clear hp hb
          go_upto_region 7 with fail
          obtain ⟨w1, hw1⟩ : ∃ q, q = wr.alloc (.cells #[.int .i64 op, .string key, .string value, .int .i64 kind, .string s, .int .i64 vn, .int .u64 u, .float .f64 f, .bool x, .int .i64 n, .int .i64 m, .bool z] 38) := ⟨_, rfl⟩
          rw [← hw1] at HNW HFA ⊢
          clear hw1
          have hfX := HFA
          have HNX := HNW
          have b0 : w1.cell? ⟨wr.heap.size, 0, none⟩ = some _ := cell_of_row w1 wr.heap.size 0 _ 38 _ HNX.out
          have b1 : w1.cell? ⟨wr.heap.size, 1, none⟩ = some _ := cell_of_row w1 wr.heap.size 1 _ 38 _ HNX.out
          have b2 : w1.cell? ⟨wr.heap.size, 2, none⟩ = some _ := cell_of_row w1 wr.heap.size 2 _ 38 _ HNX.out
          have b3 : w1.cell? ⟨wr.heap.size, 3, none⟩ = some _ := cell_of_row w1 wr.heap.size 3 _ 38 _ HNX.out
          have b4 : w1.cell? ⟨wr.heap.size, 4, none⟩ = some _ := cell_of_row w1 wr.heap.size 4 _ 38 _ HNX.out
          have b5 : w1.cell? ⟨wr.heap.size, 5, none⟩ = some _ := cell_of_row w1 wr.heap.size 5 _ 38 _ HNX.out
          have b6 : w1.cell? ⟨wr.heap.size, 6, none⟩ = some _ := cell_of_row w1 wr.heap.size 6 _ 38 _ HNX.out
          have b7 : w1.cell? ⟨wr.heap.size, 7, none⟩ = some _ := cell_of_row w1 wr.heap.size 7 _ 38 _ HNX.out
          have b8 : w1.cell? ⟨wr.heap.size, 8, none⟩ = some _ := cell_of_row w1 wr.heap.size 8 _ 38 _ HNX.out
          have b9 : w1.cell? ⟨wr.heap.size, 9, none⟩ = some _ := cell_of_row w1 wr.heap.size 9 _ 38 _ HNX.out
          have b10 : w1.cell? ⟨wr.heap.size, 10, none⟩ = some _ := cell_of_row w1 wr.heap.size 10 _ 38 _ HNX.out
          have b11 : w1.cell? ⟨wr.heap.size, 11, none⟩ = some _ := cell_of_row w1 wr.heap.size 11 _ 38 _ HNX.out
          have hp := HPP.out
          have hb := HBB.out
          have hS := sput_any E ⟨op, key, value, ⟨kind, s, vn, u, f, x⟩, n, m, z⟩ hbd hb w.heap.size w1 (hGv _ hfX.out) (by omega) hfit.2.1 hfit.2.2 (HE.out.row.fr hfX.out (by simp))
          simp only [PutD.cells] at hS
          cases hput : E.put ⟨op, key, value, ⟨kind, s, vn, u, f, x⟩, n, m, z⟩ with
          | none =>
            unfold PutRes at hS
            rw [hput] at hS
            have HS := Lib.hid hS
            clear hS hput hp hb hbd hfit hc hGv
            go_wp2_with ((go_at_call 52; refine HS.out.mono ?_; rintro e w2 ⟨hf2, rfl⟩; have HF2 := Lib.hid hf2; clear hf2))
            ((try simp only [Exit.inBlock, Exit.then]); refine bodyPost_ret (results_tmp4 rfl _ _ _) rfl ?_)
            exact ⟨(HE.out.fr.trans hfX.out).step HF2.out (fun t ht => .inr (by simp at ht; omega)), .inr (.inr rfl)⟩
          | some E2 =>
            unfold PutRes at hS
            rw [hput] at hS
            have HS := Lib.hid hS
            have HK := Lib.hid (sps_next HE.out.ks hp hb hput)
            clear hS hput hp hb hbd hfit hc hGv
            go_upto_region 9 with ((go_at_call 52; refine HS.out.mono ?_; rintro e w2 ⟨hf2, rfl, hr2⟩; have HF2 := Lib.hid hf2; have HR2 := Lib.hid hr2; clear hf2 hr2))
            clear c0 c1 c2 c3 c4 c5 c6 c7 c8 c9 c10 c11 b0 b1 b2 b3 b4 b5 b6 b7 b8 b9 b10 b11
            have HFT : Hid (Fr [w.heap.size] wr w2) := Lib.hid ((hfX.out.sub (by simp)).trans HF2.out)
            obtain ⟨bf, st0, prt, bd, ky, er, ou, lx, pc, bg, sl⟩ := E2
            have hR2 : SR w2.drew w.heap.size #[.string ⟨bf.toArray⟩, .int .i64 st0, .int .i64 prt, .bool bd, .string ⟨ky.toArray⟩, .bool er, .bool ou, .bool lx, .int .i64 pc, .bool bg, .bool sl] := HR2.out
            obtain ⟨⟨d0, -, -, -, -, d5, d6, -⟩, -⟩ := hR2.all
            obtain ⟨i49, hi49, hz49, hs49, hb49⟩ := parts_c info49
            have hO : OwnC w2.drew 49 3 (.slice a5 k cp5) k (spStoodL l k) := (HE.out.step HFT.out).2
            have HO := Lib.hid hO
            clear hR2 hO
            go_region_law (refine stepApp1C w2.drew (by rfl) _ _ _ (by rfl) 49 i49 _ Tryz.underlying45 hi49 hz49 3 hs49 hb49 rfl (.slice a5 k cp5) k (spStoodL l k) #[.bool er, .bool ou, .int .i64 bf.length] rfl (by simp [Value.oneCell']) (by rfl) (by rfl) HO.out (by omega) ?_; intro v5 w5 ho5 hf5 hb5; obtain ⟨a6, cp6, rfl⟩ := ho5.shape; have HO5 := Lib.hid ho5; clear ho5; have HF5 := Lib.hid hf5; have HB5 := Lib.hid hb5; clear hf5 hb5)
            all_goals
              have hnx := HE.out.next HFT.out HR2.out HK.out HO5.out HF5.out HB5.out
              have HNX := Lib.hid hnx
              clear hnx
              go_simp
              go_wp2_with fail
              go_roundw
              case rel => exact ⟨k + 1, _, by omega, by go_num, HNX⟩
              case measure => simp [intOf]; omega
    · have hkl : k = l.length := by omega
      subst hkl
      have hR : SR wr w.heap.size (spCells E) := HE.out.row
      obtain ⟨bf, st0, prt, bd, ky, er, ou, lx, pc, bg, sl⟩ := E
      have hR : SR wr w.heap.size #[.string ⟨bf.toArray⟩, .int .i64 st0, .int .i64 prt, .bool bd, .string ⟨ky.toArray⟩, .bool er, .bool ou, .bool lx, .int .i64 pc, .bool bg, .bool sl] := hR
      obtain ⟨⟨d0, -⟩, -⟩ := hR.all
      clear hR
      go_wp2_with fail
      ((try simp only [Exit.inBlock, Exit.then]); refine bodyPost_ret (results_tmp4 rfl _ _ _) rfl ?_)
      exact ⟨HE.out.fr, .inl ⟨_, _, HE.out.ks, rfl, HE.out.own, fun g hg => Nat.le_of_succ_le (HE.out.new g hg)⟩⟩
end Go.Proofs.YtaaogjhaokaggaaGreatDoor
namespace Go.Proofs.YtaaogjhaokaggaaGreatDoor
open Go.RowKit

theorem small_bd {p : PutD} (h : SmallP p) (ho : PutOk p) : PutBd p :=
  ⟨h.1, h.2.1, h.2.2.1, h.2.2.2, ho.vd.1, ho.vd.2.1, ho.vd.2.2.1, ho.vd.2.2.2, ho.n0, ho.n1, ho.m0, ho.m1⟩
/-- What stood behind call k lies there. -/
theorem stood_cells {l : List PutD} {w : World} {vl : Value} {k : Nat} {st : St} (hall : ∀ k, k ≤ l.length → ∃ st, sts fTx l k = some st) (h : OwnC w 49 3 vl l.length (stoodL fTx l l.length)) (hk : k < l.length) (hs : sts fTx l (k + 1) = some st) :
    ∃ g cap, vl = .slice (some ⟨g, 0, none⟩) l.length cap ∧ g < w.heap.size ∧ w.cell? ⟨g, k * 3, none⟩ = some (.bool (st.err != 0)) ∧ w.cell? ⟨g, k * 3 + 1, none⟩ = some (.bool (st.err == 2)) ∧ w.cell? ⟨g, k * 3 + 2, none⟩ = some (.int .i64 st.buf.length) := by
  obtain ⟨g, cap, h1, _, h2, h3⟩ := h.row (by omega)
  obtain ⟨k1, k2, k3⟩ := stoodL_at fTx l l.length k st hk hall hs
  exact ⟨g, cap, h1, h2, h3 _ _ k1, h3 _ _ k2, h3 _ _ k3⟩
theorem all_of_end {F : Nat → List UInt8} {l : List PutD} {st : St} (h : sts F l l.length = some st) : ∀ k, k ≤ l.length → ∃ st, sts F l k = some st := by
  intro k hk
  cases hs : sts F l k with
  | some st => exact ⟨st, rfl⟩
  | none => rw [sts_none hs l.length hk] at h; cases h
theorem encd_shape {l : List PutD} {w w' : World} {e : Ending} (h : EncdRes l w e w') : ∃ (T : ByteArray) (a : Option Addr) (n c : Nat) (fine asked : Bool), e = .returned (.tuple #[.string T, .slice a n c, .bool fine, .bool asked]) ∧ Fr [] w w' ∧
    (asked = true → fine = true → ∃ E, sps l l.length = some E ∧ T = ⟨E.buf.toArray⟩ ∧ n = l.length ∧ OwnC w' 49 3 (.slice a n c) l.length (spStoodL l l.length)) ∧
    (asked = true → fine = false → ∃ k E p, l[k]? = some p ∧ sps l k = some E ∧ spBad p = true) := by
  obtain ⟨hf, ⟨E, vl, h1, rfl, h2, _⟩ | ⟨hb, rfl⟩ | rfl⟩ := h
  · obtain ⟨a, c, rfl⟩ := h2.shape
    exact ⟨_, a, _, c, true, true, rfl, hf, fun _ _ => ⟨E, h1, rfl, rfl, h2⟩, fun _ h => by cases h⟩
  · exact ⟨_, none, 0, 0, false, true, rfl, hf, fun _ h => (by cases h), fun _ _ => hb⟩
  · exact ⟨_, none, 0, 0, true, false, rfl, hf, fun h => (by cases h), fun h => by cases h⟩
set_option maxRecDepth 100000 in
set_option maxHeartbeats 100000000 in
theorem en_main (hV : ValidSaid) {ea : Addr} {B0 : Nat} (l : List PutD) (v : Value) (w : World) (hG : Gl B0 ea w) (hlen : l.length ≤ 9223372036854775807) (hok : ∀ p, p ∈ l → PutOk p) (hP : PutsC w v l) :
    Calls Tryz.prog 11 #[v] w fun e w' => e = .returned (.bool true) ∧ Fr [] w w' := by
  have hz := zzFits1_any l v w hlen hP
  have HZ := Lib.hid hz
  have HG := Lib.hid hG
  have HP := Lib.hid hP
  have HOK := Lib.hid hok
  have HLP := Lib.hid (fun (h : FitsL l) (w1 : World) (f : Fr [] w w1) => lPuts_any l v w1 h (hP.fr f))
  have hshape : ∃ a c, v = .slice a l.length c := by
    obtain ⟨a, c, rfl, _⟩ := hP
    exact ⟨a, c, rfl⟩
  obtain ⟨a, c, rfl⟩ := hshape
  clear hz hG hP hok hlen
  go_enter Tryz.func11, Tryz.ntmps11
  go_upto_region 1 with fail
  go_upto_if 14 with (go_at_call 26; refine HZ.out.mono ?_; rintro e w1 ⟨r1, rfl, hr1, hf1⟩; have HR1 := Lib.hid hr1; have HF1 := Lib.hid hf1; clear hr1 hf1)
  cases r1 with
  | false =>
    go_wp2_with fail
    go_ret
    exact ⟨rfl, HF1.out⟩
  | true =>
  have hfit := HR1.out rfl
  have HC2 := Lib.hid (HLP.out hfit w1 HF1.out)
  clear hfit
  go_upto_if 17 with (go_at_call 27; refine HC2.out.mono ?_; rintro e w2 ⟨r2, rfl, hr2, hf2⟩; have HR2 := Lib.hid hr2; have HF2 := Lib.hid (HF1.out.trans hf2); clear hr2 hf2)
  cases r2 with
  | false =>
    go_wp2_with fail
    go_ret
    exact ⟨rfl, HF2.out⟩
  | true =>
  obtain ⟨h200, hsm⟩ := HR2.out rfl
  have hbd : ∀ p, p ∈ l → PutBd p := fun p hp => small_bd (hsm p hp) (HOK.out p hp)
  have HBD := Lib.hid hbd
  have HC3 := Lib.hid (encoded_any l _ w2 (HG.out.fr HF2.out (by simp)) hbd h200 (HP.out.fr HF2.out))
  clear hsm hbd
  go_upto_if 26 with (go_at_call 28; refine HC3.out.mono ?_; intro e w3 hres; obtain ⟨T, va, vn, vc, fine, asked, rfl, hf3, hgood, hbad⟩ := encd_shape hres; have HGOOD := Lib.hid hgood; have HBAD := Lib.hid hbad; have HF3 := Lib.hid (HF2.out.trans hf3); clear hres hgood hbad hf3)
  cases asked with
  | false =>
    go_wp2_with fail
    go_ret
    exact ⟨rfl, HF3.out⟩
  | true =>
  cases fine with
  | false =>
    obtain ⟨k, E, p, hp, hE, hb⟩ := HBAD.out rfl rfl
    have hend := asked_end hp hE hb
    have hc := asked_encode hV l HBD.out h200 (.inr ⟨k, E, p, hp, hE, hb⟩) (.slice a l.length c) w3 (HG.out.fr HF3.out (by simp)) (HP.out.fr HF3.out)
    have hc4 : Calls Tryz.prog 23 #[.slice a l.length c] w3 fun e w' => e = .returned (.tuple #[.string ⟨#[]⟩, .slice none 0 0, .bool false]) ∧ Fr [] w3 w' := hc.mono fun e w' hh => by
      obtain ⟨h1, h2⟩ := hh
      rw [hend] at h2
      exact ⟨h2, h1⟩
    have HC4 := Lib.hid hc4
    clear hc4 hc hend hp hE hb
    go_wp2_with (go_at_call 23; refine HC4.out.mono ?_; rintro e w4 ⟨rfl, hf4⟩)
    go_ret
    exact ⟨rfl, HF3.out.trans hf4⟩
  | true =>
  obtain ⟨E, hE, rfl, rfl, hown⟩ := HGOOD.out rfl rfl
  obtain ⟨st, hst, hrel, hstl⟩ := sps_sts hE
  have hbuf : E.buf = st.buf := by obtain ⟨_, _, _, rfl, _⟩ := hrel; rfl
  rw [hstl] at hown
  have HALL := Lib.hid (all_of_end hst)
  have hc := asked_encode hV l HBD.out h200 (.inl ⟨E, hE⟩) (.slice a l.length c) w3 (HG.out.fr HF3.out (by simp)) (HP.out.fr HF3.out)
  have hc4 : Calls Tryz.prog 23 #[.slice a l.length c] w3 fun e w' => ∃ a2 c2, e = .returned (.tuple #[.string ⟨E.buf.toArray⟩, .slice a2 l.length c2, .bool true]) ∧ OwnC w' 49 3 (.slice a2 l.length c2) l.length (stoodL fTx l l.length) ∧ Fr [] w3 w' := hc.mono fun e w' hh => by
    obtain ⟨h1, h2⟩ := hh
    rw [hst] at h2
    obtain ⟨vl, h3, h4⟩ := h2
    obtain ⟨a2, c2, rfl⟩ := h4.shape
    exact ⟨a2, c2, by rw [h3, hbuf], h4, h1⟩
  have HC4 := Lib.hid hc4
  have HOWN := Lib.hid hown
  generalize E.buf = T at *
  clear hc4 hc hstl hrel hbuf hown hE hst
  obtain ⟨N, hN⟩ : ∃ N, N = l.length := ⟨_, rfl⟩
  have HN := Lib.hid hN
  rw [← hN] at h200 HC4 HOWN ⊢
  clear hN
  go_upto_region 13 with (go_at_call 23; refine HC4.out.mono ?_; rintro e w4 ⟨a2, c2, rfl, ho4, hf4⟩; have HO4 := Lib.hid ho4; have HOW4 := Lib.hid (HOWN.out.fr hf4 (by simp)); have HF4 := Lib.hid (HF3.out.trans hf4); clear ho4 hf4)
  have hNi : (N : Int) ≤ 200 := by omega
  go_wp2_with fail
  go_loopw [55] (fun i wr => ∃ k : Nat, k ≤ N ∧ i = .int .i64 k ∧ Hid (Fr [] w4 wr)) (fun i _ => N - (intOf i).toNat)
  case atStart => exact ⟨0, Nat.zero_le _, rfl, Lib.hid (Fr.refl _ _)⟩
  case round =>
    obtain ⟨k, hk, rfl, HF⟩ := hrel
    by_cases hlt : k < N
    case neg =>
      go_wp2_with fail
      go_ret
      exact ⟨rfl, HF4.out.trans HF.out⟩
    obtain ⟨st, hst⟩ := HALL.out (k + 1) (by rw [← HN.out]; omega)
    have ho5 := HOW4.out.fr HF.out (by simp)
    have ho6 := HO4.out.fr HF.out (by simp)
    rw [HN.out] at ho5 ho6 hlt
    obtain ⟨g5, cap5, h5, l5, d0, d1, d2⟩ := stood_cells HALL.out ho5 hlt hst
    obtain ⟨g6, cap6, h6, l6, b0, b1, b2⟩ := stood_cells HALL.out ho6 hlt hst
    rw [← HN.out] at h5 h6 hlt
    cases h5
    cases h6
    clear ho5 ho6 hst
    obtain ⟨x0, hx0⟩ : ∃ q, q = (st.err != 0) := ⟨_, rfl⟩
    obtain ⟨x1, hx1⟩ : ∃ q, q = (st.err == 2) := ⟨_, rfl⟩
    obtain ⟨x2, hx2⟩ : ∃ q, q = st.buf.length := ⟨_, rfl⟩
    rw [← hx0] at d0 b0
    rw [← hx1] at d1 b1
    rw [← hx2] at d2 b2
    clear hx0 hx1 hx2
    have hltI : (k : Int) < N := by omega
    have hal : Fr [] wr (wr.alloc (.cells #[.bool x0, .bool x1, .int .i64 x2] 49)) := (Fr.refl _ _).alloc _
    have e0 := hal.cell d0 (by simp)
    have e1 := hal.cell d1 (by simp)
    have e2 := hal.cell d2 (by simp)
    have HAL := Lib.hid hal
    clear hal
    go_upto_region 16 with fail
    go_quiet (fail)
    go_wp2_with fail
    go_roundw
    case rel => exact ⟨k + 1, by omega, by go_num, Lib.hid ((HF.out.trans HAL.out).drewN _)⟩
    case measure => simp [intOf]; omega
theorem en_walk (hV : ValidSaid) {ea : Addr} {B0 : Nat} (l : List PutD) (v : Value) (w : World) (hG : Gl B0 ea w) (hlen : l.length ≤ 9223372036854775807) (hok : ∀ p, p ∈ l → PutOk p) (hP : PutsC w v l) :
    Calls Tryz.prog 11 #[v] w fun e w' => e = .returned (.bool true) ∧ Fr [] w w' := en_main hV l v w hG hlen hok hP
end Go.Proofs.YtaaogjhaokaggaaGreatDoor
