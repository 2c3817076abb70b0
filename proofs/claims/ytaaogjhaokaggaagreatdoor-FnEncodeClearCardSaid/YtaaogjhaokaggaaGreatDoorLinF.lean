import Derived.Test.YtaaogjhaokaggaaGreatDoorLinE
import Derived.Test.YtaaogjhaokaggaaGreatDoorSpX
namespace Go.Proofs.YtaaogjhaokaggaaGreatDoor
open Go.RowKit

def tagSz (p : ByteArray × ByteArray) : Nat := p.1.size + p.2.size
def fldSz (p : (ByteArray × ByteArray) × VD) : Nat := p.1.1.size + p.2.s.size
def lnSz (e : LnD) : Nat := e.name.size + ((e.tags.map tagSz).sum + ((e.fields.zip e.values).map fldSz).sum)
def lnPt (e : LnD) : Nat := e.tags.length + e.fields.length
structure LnGood (e : LnD) : Prop where
  one : 1 ≤ e.fields.length
  vals : e.values.length = e.fields.length
  can : ∀ d, d ∈ e.values → d.can = true
structure LinesOk (l : List LnD) : Prop where
  len : l.length ≤ 20
  sz : (l.map lnSz).sum ≤ 2000
  pt : (l.map lnPt).sum ≤ 100
  good : ∀ e, e ∈ l → LnGood e
theorem sum_take_succ {α : Type} (f : α → Nat) (l : List α) (k : Nat) (x : α) (h : l[k]? = some x) : ((l.take (k + 1)).map f).sum = ((l.take k).map f).sum + f x := by
  rw [List.take_add_one, h]
  simp
/-- How lLines stands behind the first k lines. -/
structure LlAt (l : List LnD) (k N P : Nat) : Prop where
  sz : N = ((l.take k).map lnSz).sum
  pt : P = ((l.take k).map lnPt).sum
  good : ∀ e, e ∈ l.take k → LnGood e
theorem LlAt.next {l : List LnD} {k N P : Nat} (h : LlAt l k N P) {e : LnD} (he : l[k]? = some e) (hg : LnGood e) : LlAt l (k + 1) (N + lnSz e) (P + lnPt e) := by
  refine ⟨by rw [sum_take_succ _ _ _ _ he, ← h.sz], by rw [sum_take_succ _ _ _ _ he, ← h.pt], fun x hx => ?_⟩
  rw [List.take_add_one, he] at hx
  rcases List.mem_append.1 hx with hx | hx
  · exact h.good x hx
  · simp at hx; rw [hx]; exact hg
theorem fits_at {l : List LnD} (h : fitLs l = true) {k : Nat} {e : LnD} (he : l[k]? = some e) : e.name.size ≤ 2147483647 ∧ e.tags.length ≤ 2147483647 ∧ (∀ p, p ∈ e.tags → p.1.size ≤ 2147483647 ∧ p.2.size ≤ 2147483647) ∧ e.fields.length ≤ 2147483647 ∧ (∀ p, p ∈ e.fields → p.1.size ≤ 2147483647 ∧ p.2.size ≤ 2147483647) ∧ e.values.length ≤ 2147483647 ∧ (∀ d, d ∈ e.values → d.s.size ≤ 2147483647) := by
  unfold fitLs at h
  rw [Bool.and_eq_true, List.all_eq_true] at h
  have h1 := h.2 e (List.mem_of_getElem? he)
  unfold fitL fitPs fitVs at h1
  simp only [Bool.and_eq_true, decide_eq_true_eq, List.all_eq_true] at h1
  obtain ⟨a, ⟨b, c⟩, ⟨d, f⟩, g, i⟩ := h1
  have hp : ∀ p : ByteArray × ByteArray, fitP p = true → p.1.size ≤ 2147483647 ∧ p.2.size ≤ 2147483647 := fun p hp => by unfold fitP at hp; simpa using hp
  refine ⟨a, b, fun p hm => hp p (c p hm), d, fun p hm => hp p (f p hm), g, fun x hx => ?_⟩
  have := i x hx
  unfold fitV at this
  simpa using this

set_option maxRecDepth 100000 in
set_option maxHeartbeats 8000000 in
theorem lLines_any (l : List LnD) (v : Value) (w : World) (hlen : l.length ≤ 2147483647) (hfit : fitLs l = true) (hP : LinesIn w v l) :
    Calls Tryz.prog 21 #[v] w fun e w' => (∃ b, e = .returned (.bool b) ∧ (b = true → LinesOk l)) ∧ Fr [] w w' := by
  obtain ⟨a, c, rfl, h⟩ := hP
  have hsf : ∀ (a : Addr) (k : FloatKind) (b : Nat) (m : Mode) (w : World), (store a (.float k b) m).run Tryz.prog w = stored Tryz.prog w a (.float k b) m := fun a k b m w => run_store Tryz.prog w a _ m rfl
  have HH := Lib.hid h
  have HFIT := Lib.hid hfit
  clear h hfit
  obtain ⟨L, hL⟩ : ∃ L, L = l.length := ⟨_, rfl⟩
  rw [← hL] at hlen ⊢
  have HLL := Lib.hid hL
  clear hL
  have no : ∀ (w w' : World), Fr [] w w' → (∃ b, Ending.returned (.bool false) = .returned (.bool b) ∧ (b = true → LinesOk l)) ∧ Fr [] w w' := fun w w' h => ⟨⟨false, rfl, fun h => by cases h⟩, h⟩
  have NO := Lib.hid no; clear no
  go_enter Tryz.func21, Tryz.ntmps21
  go_wp2_with fail
  go_loopw [3, 4, 13] (fun sn sp i wr => ∃ k N P : Nat, k ≤ L ∧ N ≤ 2000 ∧ P ≤ 100 ∧ i = .int .i64 k ∧ sn = .int .i64 N ∧ sp = .int .i64 P ∧ Hid (LlAt l k N P) ∧ Hid (Fr [] w wr)) (fun _ _ i _ => L - (intOf i).toNat)
  case atStart => exact ⟨0, 0, 0, Nat.zero_le _, by decide, by decide, rfl, rfl, rfl, Lib.hid ⟨rfl, rfl, by simp⟩, Lib.hid (Fr.refl _ _)⟩
  case round =>
    obtain ⟨k, N, P, hk, hN, hPP, rfl, rfl, rfl, HA, HF⟩ := hrel
    by_cases hlt : k < L
    case neg =>
      have hlk : l.take k = l := List.take_of_length_le (by rw [← HLL.out]; omega)
      have HK := Lib.hid hlk; clear hlk
      by_cases h20 : L ≤ 20
      · have h20i : (L : Int) ≤ 20 := by omega
        have hNi : (N : Int) ≤ 2000 := by omega
        go_wp2_with fail
        go_ret
        refine ⟨⟨true, rfl, fun _ => ?_⟩, HF.out⟩
        have ha := HA.out
        have e1 := ha.sz
        have e2 := ha.pt
        have e3 := ha.good
        rw [HK.out] at e1 e2 e3
        exact ⟨by rw [← HLL.out]; exact h20, by omega, by omega, e3⟩
      · have h20i : (20 : Int) < (L : Int) := by omega
        go_wp2_with fail
        go_ret
        exact ⟨.inl rfl, HF.out⟩
    have hlk : k < l.length := by rw [← HLL.out]; exact hlt
    obtain ⟨e, he⟩ : ∃ e, l[k]? = some e := ⟨l[k], List.getElem?_eq_getElem hlk⟩
    have HE := Lib.hid he
    have hfa := fits_at HFIT.out he
    have hg : ∃ g off, a = some ⟨g, off, none⟩ ∧ ∃ cs, LineIn wr cs e ∧ ∀ j u, cs[j]? = some u → wr.cell? ⟨g, off + k * 7 + j, none⟩ = some u := by
      rcases HH.out with h | ⟨g, off, h1, h2⟩
      · subst h; simp at hlk
      · obtain ⟨cs, h3, h4⟩ := h2 k e he
        exact ⟨g, off, h1, cs, h3.fr HF.out, fun j u hu => HF.out.cell (h4 j u hu) List.not_mem_nil⟩
    obtain ⟨g, off, rfl, cs, hline, hcell⟩ := hg
    clear he hlk
    obtain ⟨wo, rfl⟩ : ∃ x, x = wr := ⟨wr, rfl⟩
    obtain ⟨nm, tags, fields, values, n, non, raw⟩ := e
    simp only at hfa
    obtain ⟨tv, fv, vv, rfl, ⟨ta, tc, rfl, htags⟩, ⟨fa, fc, rfl, hfields⟩, ⟨va, vc, rfl, hvals⟩⟩ := hline
    simp only at htags hfields hvals
    have c0 : wo.cell? ⟨g, off + k * 7, none⟩ = some (.string nm) := hcell 0 _ rfl
    have c1 : wo.cell? ⟨g, off + k * 7 + 1, none⟩ = some (.slice ta tags.length tc) := hcell 1 _ rfl
    have c2 : wo.cell? ⟨g, off + k * 7 + 2, none⟩ = some (.slice fa fields.length fc) := hcell 2 _ rfl
    have c3 : wo.cell? ⟨g, off + k * 7 + 3, none⟩ = some (.slice va values.length vc) := hcell 3 _ rfl
    have c4 : wo.cell? ⟨g, off + k * 7 + 4, none⟩ = some (.int .i64 n) := hcell 4 _ rfl
    have c5 : wo.cell? ⟨g, off + k * 7 + 5, none⟩ = some (.bool non) := hcell 5 _ rfl
    have c6 : wo.cell? ⟨g, off + k * 7 + 6, none⟩ = some (.bool raw) := hcell 6 _ rfl
    have HT := Lib.hid htags
    have HFD := Lib.hid hfields
    have HVL := Lib.hid hvals
    have hn1 : nm.size ≤ 2147483647 := hfa.1
    have ht1 : tags.length ≤ 2147483647 := hfa.2.1
    have hf1 : fields.length ≤ 2147483647 := hfa.2.2.2.1
    have hv1 : values.length ≤ 2147483647 := hfa.2.2.2.2.2.1
    have HTS := Lib.hid hfa.2.2.1
    have HFS := Lib.hid hfa.2.2.2.2.1
    have HVS := Lib.hid hfa.2.2.2.2.2.2
    clear hcell htags hfields hvals hfa
    go_upto_region 5 with fail
    obtain ⟨w1, hw1⟩ : ∃ x, x = wo.alloc (.cells #[.string nm, .slice ta tags.length tc, .slice fa fields.length fc, .slice va values.length vc, .int .i64 n, .bool non, .bool raw] 43) := ⟨_, rfl⟩
    rw [← hw1]
    have hfw1 : Fr [] wo w1 := by rw [hw1]; exact (Fr.refl _ _).alloc _
    have hb1 : w1.heap[wo.heap.size]? = some (.cells #[.string nm, .slice ta tags.length tc, .slice fa fields.length fc, .slice va values.length vc, .int .i64 n, .bool non, .bool raw] 43 (0, 0)) := by rw [hw1]; exact heap_alloc_new _ _
    have HW1 := Lib.hid (HF.out.trans hfw1)
    have HFW1 := Lib.hid hfw1
    have HB1 := Lib.hid hb1
    have d0 := cell_of_row w1 wo.heap.size 0 _ 43 _ hb1
    have d1 := cell_of_row w1 wo.heap.size 1 _ 43 _ hb1
    have d2 := cell_of_row w1 wo.heap.size 2 _ 43 _ hb1
    have d3 := cell_of_row w1 wo.heap.size 3 _ 43 _ hb1
    clear hw1 hfw1 hb1 c0 c1 c2 c3 c4 c5 c6
    by_cases hz : fields.length = 0
    case pos =>
      have hzi : ((fields.length : Int) == 0) = true := by rw [beq_iff_eq]; omega
      go_wp2_with fail
      go_ret
      exact NO.out _ _ HW1.out
    have hzi : ((fields.length : Int) == 0) = false := by rw [beq_eq_false_iff_ne]; omega
    by_cases hvf : values.length = fields.length
    case neg =>
      have hvi : ((values.length : Int) != (fields.length : Int)) = true := by rw [bne_iff_ne]; omega
      go_wp2_with fail
      go_ret
      exact NO.out _ _ HW1.out
    have hvi : ((values.length : Int) != (fields.length : Int)) = false := by rw [bne_eq_false_iff_eq]; omega
    by_cases hpt : P + (tags.length + fields.length) ≤ 100
    case neg =>
      have hpi : (100 : Int) < (P : Int) + ((tags.length : Int) + (fields.length : Int)) := by omega
      have HVF := Lib.hid hvf; clear hvf
      go_wp2_with fail
      go_ret
      exact NO.out _ _ HW1.out
    have hpi : (P : Int) + ((tags.length : Int) + (fields.length : Int)) ≤ 100 := by omega
    have HVF := Lib.hid hvf; clear hvf
    have HZ := Lib.hid hz; clear hz
    go_wp2_with fail
    go_loopw [3, 51] (fun sn i wt => ∃ j M : Nat, j ≤ tags.length ∧ M ≤ 3000000000 + j * 5000000000 ∧ i = .int .i64 j ∧ sn = .int .i64 M ∧ Hid (M = N + (nm.size + ((tags.take j).map tagSz).sum)) ∧ Hid (Fr [] w1 wt)) (fun _ i _ => tags.length - (intOf i).toNat)
    case atStart => exact ⟨0, N + nm.size, Nat.zero_le _, by omega, rfl, by go_num, Lib.hid (by simp), Lib.hid (Fr.refl _ _)⟩
    case round =>
      obtain ⟨j, M, hj, hM, rfl, rfl, HM, HF1⟩ := hrel
      by_cases hjt : j < tags.length
      case pos =>
        obtain ⟨x, hx⟩ : ∃ x, tags[j]? = some x := ⟨tags[j], List.getElem?_eq_getElem hjt⟩
        have hxs := HTS.out x (List.mem_of_getElem? hx)
        have HX := Lib.hid hx
        have hgt : ∃ g off, ta = some ⟨g, off, none⟩ ∧ wr.cell? ⟨g, off + j * 2, none⟩ = some (.string x.1) ∧ wr.cell? ⟨g, off + j * 2 + 1, none⟩ = some (.string x.2) := by
          rcases HT.out with h | ⟨g, off, h1, h2⟩
          · rw [h] at hjt; simp at hjt
          · exact ⟨g, off, h1, (HFW1.out.trans HF1.out).cell (h2 j x hx).1 List.not_mem_nil, (HFW1.out.trans HF1.out).cell (h2 j x hx).2 List.not_mem_nil⟩
        obtain ⟨gt, offt, rfl, t0, t1⟩ := hgt
        clear hx
        obtain ⟨x1, x2⟩ := x
        simp only at t0 t1 hxs
        go_wp2_with fail
        go_roundw
        case rel => exact ⟨j + 1, M + (x1.size + x2.size), by omega, by omega, by go_num, by go_num, Lib.hid (by rw [sum_take_succ _ _ _ _ HX.out, HM.out]; simp only [tagSz]; omega), Lib.hid (HF1.out.alloc _)⟩
        case measure => simp [intOf]; omega
      case neg =>
        have hM2 : M = N + (nm.size + (tags.map tagSz).sum) := by
          have h9 := HM.out
          rw [List.take_of_length_le (by omega)] at h9
          exact h9
        have HM2 := Lib.hid hM2
        have hMb : M ≤ 1000000000000 := by omega
        have hb2 := HF1.out.blk HB1.out List.not_mem_nil
        have e2 := cell_of_row wr wo.heap.size 2 _ 43 _ hb2
        have HFT := Lib.hid (HFW1.out.trans HF1.out)
        obtain ⟨wt, rfl⟩ : ∃ x, x = wr := ⟨wr, rfl⟩
        have HB2 := Lib.hid hb2
        clear hb2 hM2 d0 d1 d2 d3
        go_wp2_with fail
        go_loopw [3, 68] (fun sn i wf => ∃ j Q : Nat, j ≤ fields.length ∧ Q ≤ 1000000000000 ∧ i = .int .i64 j ∧ sn = .int .i64 Q ∧ Hid (Q = N + (nm.size + ((tags.map tagSz).sum + (((fields.zip values).take j).map fldSz).sum)) ∧ (1 ≤ j → Q ≤ 2000) ∧ ∀ t d, t < j → values[t]? = some d → d.can = true) ∧ Hid (Fr [] wt wf)) (fun _ i _ => fields.length - (intOf i).toNat)
        case atStart => exact ⟨0, M, Nat.zero_le _, hMb, rfl, rfl, Lib.hid ⟨by rw [HM2.out]; simp, fun h => by omega, fun t d h => by omega⟩, Lib.hid (Fr.refl _ _)⟩
        case round =>
          obtain ⟨q, Q, hq, hQ, rfl, rfl, HQ, HFQ⟩ := hrel
          by_cases hqf : q < fields.length
          case neg =>
            have hqe : q = fields.length := by omega
            have hq0 := HQ.out
            have hNX : LlAt l (k + 1) Q (P + (tags.length + fields.length)) := by
              have hgood : LnGood ⟨nm, tags, fields, values, n, non, raw⟩ := ⟨by have := HZ.out; simp only; omega, HVF.out, fun d hd => by
                obtain ⟨t, ht⟩ := List.mem_iff_getElem?.1 hd
                have hlt2 := (List.getElem?_eq_some_iff.1 ht).1
                exact hq0.2.2 t d (by have := HVF.out; simp only at hlt2; omega) ht⟩
              have h9 := HA.out.next HE.out hgood
              have e9 : Q = N + lnSz ⟨nm, tags, fields, values, n, non, raw⟩ := by
                have h8 := hq0.1
                rw [List.take_of_length_le (by simp only [List.length_zip]; omega)] at h8
                rw [h8]
                rfl
              rw [e9]
              exact h9
            have HNX := Lib.hid hNX
            have hQ2 : Q ≤ 2000 := hq0.2.1 (by have := HZ.out; omega)
            clear hq0 hNX
            go_wp2_with fail
            go_roundw
            case rel => exact ⟨k + 1, Q, P + (tags.length + fields.length), by omega, hQ2, hpt, by go_num, rfl, by go_num, HNX, Lib.hid ((HF.out.trans HFT.out).trans HFQ.out)⟩
            case measure => simp [intOf]; omega
          obtain ⟨x, hx⟩ : ∃ x, fields[q]? = some x := ⟨fields[q], List.getElem?_eq_getElem hqf⟩
          have hqv : q < values.length := by rw [HVF.out]; exact hqf
          obtain ⟨d, hd⟩ : ∃ d, values[q]? = some d := ⟨values[q], List.getElem?_eq_getElem hqv⟩
          have hxs := HFS.out x (List.mem_of_getElem? hx)
          have hds := HVS.out d (List.mem_of_getElem? hd)
          have HX := Lib.hid hx
          have HD := Lib.hid hd
          have hfo := HFT.out.trans HFQ.out
          have hgt : ∃ g off, fa = some ⟨g, off, none⟩ ∧ wr.cell? ⟨g, off + q * 2, none⟩ = some (.string x.1) ∧ wr.cell? ⟨g, off + q * 2 + 1, none⟩ = some (.string x.2) := by
            rcases HFD.out with h | ⟨g, off, h1, h2⟩
            · rw [h] at hqf; simp at hqf
            · exact ⟨g, off, h1, hfo.cell (h2 q x hx).1 List.not_mem_nil, hfo.cell (h2 q x hx).2 List.not_mem_nil⟩
          have hgv : ∃ g off, va = some ⟨g, off, none⟩ ∧ ∀ j u, d.cells[j]? = some u → wr.cell? ⟨g, off + q * 6 + j, none⟩ = some u := by
            rcases HVL.out with h | ⟨g, off, h1, h2⟩
            · rw [h] at hqv; simp at hqv
            · exact ⟨g, off, h1, fun j u hu => hfo.cell (h2 q d hd j u hu) List.not_mem_nil⟩
          obtain ⟨gt, offt, rfl, t0, t1⟩ := hgt
          obtain ⟨gv, offv, rfl, hcell⟩ := hgv
          have HCELL := Lib.hid hcell
          have hvlen : (q : Int) < (values.length : Int) := by omega
          clear hx hd hfo hcell
          obtain ⟨x1, x2⟩ := x
          obtain ⟨kd, sd, nd, ud, fd, bd⟩ := d
          simp only at t0 t1 hxs hds
          go_upto_region 17 with fail
          obtain ⟨w4, hw4⟩ : ∃ z, z = wr.alloc (.cells #[.string x1, .string x2] 80) := ⟨_, rfl⟩
          rw [← hw4]
          have hf4 : Fr [] wr w4 := by rw [hw4]; exact (Fr.refl _ _).alloc _
          have hb4 : w4.heap[wr.heap.size]? = some (.cells #[.string x1, .string x2] 80 (0, 0)) := by rw [hw4]; exact heap_alloc_new _ _
          have p0 : w4.cell? ⟨wr.heap.size, 0, none⟩ = some (.string x1) := cell_of_row w4 wr.heap.size 0 _ 80 _ hb4
          have p0d : w4.drew.cell? ⟨wr.heap.size, 0, none⟩ = some (.string x1) := p0
          have e3 : w4.cell? ⟨wo.heap.size, 3, none⟩ = some (.slice (some ⟨gv, offv, none⟩) values.length vc) := cell_of_row w4 wo.heap.size 3 _ 43 _ (hf4.blk (HFQ.out.blk HB2.out List.not_mem_nil) List.not_mem_nil)
          have q0 : w4.cell? ⟨gv, offv + q * 6, none⟩ = some (.int .i64 kd) := hf4.cell (HCELL.out 0 _ rfl) List.not_mem_nil
          have q1 : w4.cell? ⟨gv, offv + q * 6 + 1, none⟩ = some (.string sd) := hf4.cell (HCELL.out 1 _ rfl) List.not_mem_nil
          have q2 : w4.cell? ⟨gv, offv + q * 6 + 2, none⟩ = some (.int .i64 nd) := hf4.cell (HCELL.out 2 _ rfl) List.not_mem_nil
          have q3 : w4.cell? ⟨gv, offv + q * 6 + 3, none⟩ = some (.int .u64 (ud : Int)) := hf4.cell (HCELL.out 3 _ rfl) List.not_mem_nil
          have q4 : w4.cell? ⟨gv, offv + q * 6 + 4, none⟩ = some (.float .f64 fd) := hf4.cell (HCELL.out 4 _ rfl) List.not_mem_nil
          have q5 : w4.cell? ⟨gv, offv + q * 6 + 5, none⟩ = some (.bool bd) := hf4.cell (HCELL.out 5 _ rfl) List.not_mem_nil
          have HF4 := Lib.hid ((HW1.out.trans HF1.out).trans (HFQ.out.trans hf4))
          have HF5 := Lib.hid (HFQ.out.trans hf4)
          clear hw4 hf4 hb4 t0 t1
          go_quiet (fail)
          by_cases hQ2 : Q + (x1.size + sd.size) ≤ 2000
          case neg =>
            have hQ2i : (2000 : Int) < (Q : Int) + ((x1.size : Int) + (sd.size : Int)) := by omega
            go_wp2_with fail
            go_ret
            exact NO.out _ _ (HF4.out.drewN _)
          have hQ2i : (Q : Int) + ((x1.size : Int) + (sd.size : Int)) ≤ 2000 := by omega
          have hcan := fun w => canBe_any ⟨kd, sd, nd, ud, fd, bd⟩ (by simp only; omega) w
          simp only [VD.cells] at hcan
          cases hcb : VD.can ⟨kd, sd, nd, ud, fd, bd⟩ with
          | false =>
            rw [hcb] at hcan
            have HCAN := Lib.hid hcan
            clear hcan hcb
            go_wp2_with (go_at_call 16; refine (HCAN.out _).mono ?_; rintro e w6 ⟨rfl, hf6⟩)
            go_ret
            exact NO.out _ _ ((HF4.out.drewN _).trans hf6)
          | true =>
            rw [hcb] at hcan
            have HCAN := Lib.hid hcan
            have HCB := Lib.hid hcb
            clear hcan hcb
            go_wp2_with (go_at_call 16; refine (HCAN.out _).mono ?_; rintro e w6 ⟨rfl, hf6⟩; have HF6 := Lib.hid ((HF5.out.drewN _).trans hf6); clear hf6)
            go_roundw
            case rel =>
              refine ⟨q + 1, Q + (x1.size + sd.size), by omega, by omega, by go_num, by go_num, Lib.hid ⟨?_, fun _ => hQ2, fun t d ht hd => ?_⟩, HF6⟩
              · have hzq : (fields.zip values)[q]? = some ((x1, x2), ⟨kd, sd, nd, ud, fd, bd⟩) := by rw [List.getElem?_zip_eq_some]; exact ⟨HX.out, HD.out⟩
                rw [sum_take_succ _ _ _ _ hzq, HQ.out.1]
                simp only [fldSz]
                omega
              · by_cases htq : t = q
                · subst htq
                  have := HD.out
                  rw [hd] at this
                  cases this
                  exact HCB.out
                · exact HQ.out.2.2 t d (by omega) hd
            case measure => simp [intOf]; omega
end Go.Proofs.YtaaogjhaokaggaaGreatDoor
