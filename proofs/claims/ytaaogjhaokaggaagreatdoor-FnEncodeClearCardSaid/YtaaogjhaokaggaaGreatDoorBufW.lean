import Derived.Test.YtaaogjhaokaggaaGreatDoorEachY
import Derived.Test.YtaaogjhaokaggaaGreatDoorEachB
namespace Go.Proofs.YtaaogjhaokaggaaGreatDoor
open Go.RowKit

/-- What Encode answers where all states are known. -/
theorem enc_gen {l : List PutD} {st : St} (hall : ∀ k, k ≤ l.length → ∃ st, sts fTx l k = some st) (hr : runs fTx St0 l = some st) (hpos : 0 < l.length) {w w' : World} {e : Ending} (h : EncRes fTx l w e w') :
    ∃ g cap, e = .returned (.tuple #[.string ⟨st.buf.toArray⟩, .slice (some ⟨g, 0, none⟩) l.length cap, .bool true]) ∧ Fr [] w w' ∧ l.length ≤ cap ∧ w'.cell? ⟨g, (l.length - 1) * 3, none⟩ = some (.bool (st.err != 0)) ∧
      ∀ j st', j < l.length → runs fTx St0 (l.take (j + 1)) = some st' → w'.cell? ⟨g, j * 3, none⟩ = some (.bool (st'.err != 0)) ∧ w'.cell? ⟨g, j * 3 + 1, none⟩ = some (.bool (st'.err == 2)) ∧ w'.cell? ⟨g, j * 3 + 2, none⟩ = some (.int .i64 st'.buf.length) := by
  obtain ⟨hf, h⟩ := h
  have hs : sts fTx l l.length = some st := by rw [sts_all]; exact hr
  rw [hs] at h
  obtain ⟨vl, rfl, ho⟩ := h
  obtain ⟨g, cap, rfl, hc, _, hcell⟩ := ho.row hpos
  have key : ∀ j st', j < l.length → runs fTx St0 (l.take (j + 1)) = some st' → w'.cell? ⟨g, j * 3, none⟩ = some (.bool (st'.err != 0)) ∧ w'.cell? ⟨g, j * 3 + 1, none⟩ = some (.bool (st'.err == 2)) ∧ w'.cell? ⟨g, j * 3 + 2, none⟩ = some (.int .i64 st'.buf.length) := fun j st' hj hr => by
    have := stoodL_at fTx l l.length j st' hj hall (by rw [sts_runs _ _ _ (by omega)]; exact hr)
    exact ⟨hcell _ _ this.1, hcell _ _ this.2.1, hcell _ _ this.2.2⟩
  refine ⟨g, cap, rfl, hf, hc, (key (l.length - 1) st (by omega) ?_).1, key⟩
  rw [show l.length - 1 + 1 = l.length by omega, List.take_length]
  exact hr
theorem nice_laxP (lax : Bool) : Nice (laxP lax) := nice_begin lax 0 (by decide) (by decide) _ (by simp [beginP])
theorem nice_plain_all {l : List LnD} (h : LinesOk l) (hok : ∀ e, e ∈ l → LnOk e) (lax : Bool) : ∀ p, p ∈ laxP lax :: lnAll l → Nice p := by
  intro p hp
  rcases List.mem_cons.1 hp with rfl | hp
  · exact nice_laxP lax
  · exact nice_all h hok p hp
theorem plain_len {l : List LnD} (h : LinesOk l) (hok : ∀ e, e ∈ l → LnOk e) (lax : Bool) {c : St} (hc : runs fTx St0 (laxP lax :: lnAll l) = some c) : c.buf.length ≤ 4000000 := by
  obtain ⟨st, h1, h2⟩ := nice_sts _ (nice_plain_all h hok lax) _ (Nat.le_refl _)
  rw [sts_all, hc] at h1
  cases h1
  have h3 := lnAll_le h l.length
  rw [List.take_length] at h3
  have h4 : (laxP lax :: lnAll l).length ≤ 141 := Nat.succ_le_succ h3
  generalize (laxP lax :: lnAll l).length = m at h2 h4
  have h5 := h2.2.1
  omega
theorem lax_cells (lax : Bool) : cellsOf [laxP lax] = [.int .i64 7, .string ⟨#[]⟩, .string ⟨#[]⟩, .int .i64 0, .string ⟨#[]⟩, .int .i64 0, .int .u64 0, .float .f64 0, .bool false, .int .i64 0, .int .i64 0, .bool lax] := rfl
theorem buf_cells (b : ByteArray) : cellsOf [bufP b] = [.int .i64 8, .string b, .string ⟨#[]⟩, .int .i64 0, .string ⟨#[]⟩, .int .i64 0, .int .u64 0, .float .f64 0, .bool false, .int .i64 0, .int .i64 0, .bool false] := rfl
theorem wr_sub (M M1 : Nat) (h : M1 + 1 = M) (hM : M ≤ 1000000) : wrap64 ((M : Int) - 1) = (M1 : Int) := by unfold wrap64; omega
theorem wr_add1 (M : Nat) (M2 : Nat) (h : M + 1 = M2) (hM : M2 ≤ 1000000) : wrap64 ((M : Int) + 1) = (M2 : Int) := by unfold wrap64; omega
/-- One call, laid just now. -/
theorem own_one (w : World) (p : PutD) : OwnC (w.alloc (.cells p.cells 38)) 38 12 (.slice (some ⟨w.heap.size, 0, none⟩) 1 1) 1 (cellsOf [p]) := by
  have e : cellsOf [p] = p.cells.toList := by simp [cellsOf]
  rw [e]
  exact ⟨rfl, by simp [PutD.cells, Value.oneCell'], .inr ⟨_, 1, rfl, p.cells, (0, 0), heap_alloc_new w _, fun j _ h => by omega, by simp [PutD.cells], Nat.le_refl _, by rw [List.take_length]⟩⟩

set_option maxRecDepth 100000 in
set_option maxHeartbeats 4000000 in
theorem buf_early1 (b : ByteArray) (v : Value) (lax : Bool) (w : World) (hb : ¬ b.size ≤ 2147483647) :
    Calls Tryz.prog 5 #[.string b, v, .bool lax] w fun e w' => e = .returned (.bool true) ∧ Fr [] w w' := by
  have hbi : (2147483647 : Int) < (b.size : Int) := by omega
  have hd : decide ((2147483647 : Int) < (b.size : Int)) = true := decide_eq_true hbi
  go_enter Tryz.func5, Tryz.ntmps5
  go_wp2_with fail
  go_ret
  exact ⟨rfl, Fr.refl _ _⟩
set_option maxRecDepth 100000 in
set_option maxHeartbeats 4000000 in
theorem buf_early2 (b : ByteArray) (l : List LnD) (v : Value) (lax : Bool) (w : World) (hb : b.size ≤ 2147483647) (hlen : l.length ≤ 9223372036854775807) (hok : ∀ e, e ∈ l → LnOk e) (hP : LinesIn w v l) (hf : fitLs l = false) :
    Calls Tryz.prog 5 #[.string b, v, .bool lax] w fun e w' => e = .returned (.bool true) ∧ Fr [] w w' := by
  have hd : decide ((2147483647 : Int) < (b.size : Int)) = false := decide_eq_false (by omega)
  have hz := zzFits4_any l v w hlen hok hP
  rw [hf] at hz
  have HZ := Lib.hid hz
  clear hz hP hok hf
  go_enter Tryz.func5, Tryz.ntmps5
  go_wp2_with (go_at_call 20; refine HZ.out.mono ?_; rintro e w1 ⟨rfl, hf1⟩)
  go_ret
  exact ⟨rfl, hf1⟩
set_option maxRecDepth 100000 in
set_option maxHeartbeats 8000000 in
theorem buf_main (hV : ValidSaid) {ea : Addr} {B0 : Nat} (b : ByteArray) (l : List LnD) (v : Value) (lax : Bool) (w : World) (hb : b.size ≤ 2147483647) (hG : Gl B0 ea w) (hok : ∀ e, e ∈ l → LnOk e) (hP : LinesIn w v l) (hf : fitLs l = true) :
    Calls Tryz.prog 5 #[.string b, v, .bool lax] w fun e w' => e = .returned (.bool true) ∧ Fr [] w w' := by
  have hlen := fits_len hf
  have hz := zzFits4_any l v w (by omega) hok hP
  rw [hf] at hz
  have hl := fun w1 (h : Fr [] w w1) => lLines_any l v w1 hlen hf (hP.fr h)
  have HZ := Lib.hid hz
  have HL := Lib.hid hl
  have HOK := Lib.hid hok
  have HG := Lib.hid hG
  obtain ⟨a, c, rfl, hrow⟩ := hP
  have HROW := Lib.hid hrow
  obtain ⟨L, hL⟩ : ∃ L, L = l.length := ⟨_, rfl⟩
  rw [← hL] at hlen HZ HL ⊢
  have HLL := Lib.hid hL
  have hd1 : decide ((2147483647 : Int) < (b.size : Int)) = false := decide_eq_false (by omega)
  clear hz hok hf hl hrow hG hL
  by_cases hb2 : b.size ≤ 2000
  case neg =>
    have hd2 : decide ((2000 : Int) < (b.size : Int)) = true := decide_eq_true (by omega)
    go_enter Tryz.func5, Tryz.ntmps5
    go_upto_region 3 with (go_at_call 20; refine HZ.out.mono ?_; rintro e w1 ⟨rfl, hf1⟩; have HF1 := Lib.hid hf1; clear hf1)
    go_wp2_with (go_at_call 21; refine (HL.out _ HF1.out).mono ?_; rintro e w2 ⟨⟨b, rfl, hb⟩, hf2⟩; have HF2 := Lib.hid (HF1.out.trans hf2); clear hf2 hb; cases b)
    all_goals
      go_ret
      exact ⟨rfl, HF2.out⟩
  have hd2 : decide ((2000 : Int) < (b.size : Int)) = false := decide_eq_false (by omega)
  go_enter Tryz.func5, Tryz.ntmps5
  go_upto_region 3 with (go_at_call 20; refine HZ.out.mono ?_; rintro e w1 ⟨rfl, hf1⟩; have HF1 := Lib.hid hf1; clear hf1)
  go_upto_region 5 with (go_at_call 21; refine (HL.out _ HF1.out).mono ?_; rintro e w2 ⟨⟨b, rfl, hb⟩, hf2⟩; have HF2 := Lib.hid (HF1.out.trans hf2); have HB := Lib.hid hb; clear hf2 hb; cases b)
  · go_ret
    exact ⟨rfl, HF2.out⟩
  have HLO := Lib.hid (HB.out trivial)
  clear HB hd1 hd2
  go_upto_region 6 with fail
  obtain ⟨w3, hw3⟩ : ∃ x, x = w2.alloc (.cells #[.int .i64 7, .string ⟨#[]⟩, .string ⟨#[]⟩, .int .i64 0, .string ⟨#[]⟩, .int .i64 0, .int .u64 0, .float .f64 0, .bool false, .int .i64 0, .int .i64 0, .bool lax] 38) := ⟨_, rfl⟩
  rw [← hw3]
  have hO3 : OutC w2 w3 (.slice (some ⟨w2.heap.size, 0, none⟩) 1 1) (laxP lax :: lnAll (l.take 0)) := by
    rw [hw3]
    have e0 : laxP lax :: lnAll (l.take 0) = [laxP lax] := by simp [lnAll]
    rw [e0]
    exact ⟨own_one w2 (laxP lax), (Fr.refl _ _).alloc _, fun g hg => by simp [Value.ownBlock] at hg; omega⟩
  have HO3 := Lib.hid hO3
  clear hw3 hO3
  go_wp2_with fail
  go_loopw [7, 37] (fun vc i wr => ∃ k : Nat, k ≤ L ∧ i = .int .i64 k ∧ Hid (OutC w2 wr vc (laxP lax :: lnAll (l.take k)))) (fun _ i _ => L - (intOf i).toNat)
  case atStart => exact ⟨0, Nat.zero_le _, rfl, HO3⟩
  case round =>
    obtain ⟨k, hk, rfl, HO⟩ := hrel
    by_cases hlt : k < L
    case pos =>
      have hlk : k < l.length := by rw [← HLL.out]; exact hlt
      obtain ⟨x, hx⟩ : ∃ x, l[k]? = some x := ⟨l[k], List.getElem?_eq_getElem hlk⟩
      have hmem := List.mem_of_getElem? hx
      obtain ⟨g, off, rfl, cs, hline, hcell⟩ := lines_at HROW.out hx (HF2.out.trans HO.out.fr)
      have hpt := lines_pt HLO.out hmem
      have hgd := HLO.out.good x hmem
      have hcal : ∀ w', Fr [] wr w' → Calls Tryz.prog 22 #[.agg cs] w' fun ε w2 => ∃ v, ε = .returned v ∧ OutC w' w2 v (lnPuts x) := fun w' hf => lCalls_any x cs w' (by unfold lnPt at hpt; omega) (by unfold lnPt at hpt; omega) hgd.vals (hline.fr hf)
      have HX := Lib.hid hx
      have HCAL := Lib.hid hcal
      have hle : (laxP lax :: lnAll (l.take k)).length + (lnPuts x).length ≤ 1000000000 := by
        have h1 := lnPuts_len x hgd
        have h2 := lnAll_le HLO.out k
        rw [List.length_cons]
        omega
      have HLE := Lib.hid hle
      obtain ⟨tv, fv, vv, rfl, ⟨ta, tc, rfl, _⟩, ⟨fa, fc, rfl, _⟩, ⟨va, vc, rfl, _⟩⟩ := hline
      have c0 : wr.cell? ⟨g, off + k * 7, none⟩ = some (.string x.name) := hcell 0 _ rfl
      have c1 : wr.cell? ⟨g, off + k * 7 + 1, none⟩ = some (.slice ta x.tags.length tc) := hcell 1 _ rfl
      have c2 : wr.cell? ⟨g, off + k * 7 + 2, none⟩ = some (.slice fa x.fields.length fc) := hcell 2 _ rfl
      have c3 : wr.cell? ⟨g, off + k * 7 + 3, none⟩ = some (.slice va x.values.length vc) := hcell 3 _ rfl
      have c4 : wr.cell? ⟨g, off + k * 7 + 4, none⟩ = some (.int .i64 x.n) := hcell 4 _ rfl
      have c5 : wr.cell? ⟨g, off + k * 7 + 5, none⟩ = some (.bool x.non) := hcell 5 _ rfl
      have c6 : wr.cell? ⟨g, off + k * 7 + 6, none⟩ = some (.bool x.raw) := hcell 6 _ rfl
      clear hcell hx hmem hpt hgd hcal hlk hle
      go_upto_region 10 with (first
        | (go_at_call 22; refine (HCAL.out _ ((Fr.refl _ _).alloc _)).mono ?_; rintro ε w7 ⟨v7, rfl, ho7⟩; have HOc := Lib.hid (HO.out.fr0 (((Fr.refl _ _).alloc _).trans ho7.fr)); have HO7 := Lib.hid ho7.own; clear ho7)
        | (at_builtin; refine wpAppP w7 (o := ⟨some 44, _, _, _, _, _⟩) rfl (.tmp 41) (.tmp 43) rfl u7 v7 (laxP lax :: lnAll (l.take k)) (lnPuts x) rfl rfl HOc.out.own HO7.out HLE.out ?_; intro v8 w8 ho8 hf8 hb8; have HO8 := Lib.hid (HOc.out.app ho8 hf8 hb8); clear ho8 hf8 hb8))
      go_wp2_with fail
      go_roundw
      case rel => exact ⟨k + 1, by omega, by go_num, Lib.hid (by rw [lnAll_snoc l k x HX.out]; exact HO8.out)⟩
      case measure => simp [intOf]; omega
    case neg =>
      have hlk : l.take k = l := List.take_of_length_le (by rw [← HLL.out]; omega)
      have hO : OutC w2 wr u7 (laxP lax :: lnAll l) := by have := HO.out; rw [hlk] at this; exact this
      obtain ⟨c1, hc1, hc2, hc3⟩ := plain_all lax l HLO.out.good
      obtain ⟨d1, hd1, hd2, hd3⟩ := buf_all b lax l HLO.out.good
      have hnice := nice_plain_all HLO.out HOK.out lax
      have hcap : (lnAll l).length ≤ 140 := by have := lnAll_le HLO.out k; rw [hlk] at this; exact this
      obtain ⟨M, M1, M2, hM, hM0, hM1, hM3, hM4⟩ : ∃ M M1 M2, M = (laxP lax :: lnAll l).length ∧ M ≤ 141 ∧ M1 + 1 = M ∧ M + 1 = M2 ∧ M - 1 = M1 := ⟨(lnAll l).length + 1, (lnAll l).length, (lnAll l).length + 2, by rw [List.length_cons], Nat.succ_le_succ hcap, rfl, rfl, rfl⟩
      have hw := wr_sub M M1 hM1 (Nat.le_trans hM0 (by decide))
      have hw2 := wr_add1 M M2 hM3 (by rw [← hM3]; exact Nat.le_trans (Nat.succ_le_succ hM0) (by decide))
      have hw3 := wr_sub M2 M hM3 (by rw [← hM3]; exact Nat.le_trans (Nat.succ_le_succ hM0) (by decide))
      have hlt1 : (M1 : Int) < (M : Int) := Int.ofNat_lt.2 (by rw [← hM1]; exact Nat.lt_succ_self _)
      have hlt2 : (M : Int) < (M2 : Int) := Int.ofNat_lt.2 (by rw [← hM3]; exact Nat.lt_succ_self _)
      have hlt3 : (0 : Int) < (M2 : Int) := Int.ofNat_lt.2 (by rw [← hM3]; exact Nat.succ_pos _)
      obtain ⟨S, hS⟩ : ∃ S, S = wantT lax 0 l := ⟨_, rfl⟩
      obtain ⟨F, hF⟩ : ∃ F, F = firstT' lax 0 l := ⟨_, rfl⟩
      rw [← hS] at hc2 hd2
      rw [← hF] at hc3 hd3
      have hSl : S.length ≤ 4000000 := by rw [← hc2]; exact plain_len HLO.out HOK.out lax hc1
      obtain ⟨T, hT⟩ : ∃ T : ByteArray, T = ⟨(b.data.toList ++ S).toArray⟩ := ⟨_, rfl⟩
      have hadd : ∀ w, (Op.stringOp .add b ⟨S.toArray⟩).run Tryz.prog w = .ok (.string T) w := fun w => by
        rw [run_string_add_sum w b ⟨S.toArray⟩ (by
          have e2 : (⟨S.toArray⟩ : ByteArray).size = S.length := by show S.toArray.size = _; simp
          rw [e2]
          omega), hT]
        have e3 : b = ⟨b.data.toList.toArray⟩ := by cases b; simp
        conv => lhs; rw [e3, ba_app]
      have hE : Calls Tryz.prog 23 #[u7] wr fun e w' => ∃ g cap, e = .returned (.tuple #[.string ⟨S.toArray⟩, .slice (some ⟨g, 0, none⟩) M cap, .bool true]) ∧ Fr [] wr w' ∧ w'.cell? ⟨g, M1 * 3, none⟩ = some (.bool F) := by
        refine (nice_encode hV (laxP lax :: lnAll l) hnice (by rw [← hM]; exact Nat.le_trans hM0 (by decide)) u7 wr (HG.out.fr (HF2.out.trans hO.fr) (by simp)) hO.own).mono ?_
        intro e w' h
        obtain ⟨g, cap, h1, h2, _, h3, _⟩ := enc_known hnice hc1 (Nat.succ_pos _) h
        rw [← hM, hc2] at h1
        rw [← hM, hM4, hc3] at h3
        exact ⟨g, cap, h1, h2, h3⟩
      have hE2 : ∀ (vv : Value) (ww : World), Gl B0 ea ww → OwnC ww 38 12 vv ([bufP b] ++ (laxP lax :: lnAll l)).length (cellsOf ([bufP b] ++ (laxP lax :: lnAll l))) → Calls Tryz.prog 23 #[vv] ww fun e w' => ∃ g cap, e = .returned (.tuple #[.string T, .slice (some ⟨g, 0, none⟩) M2 cap, .bool true]) ∧ Fr [] ww w' ∧ w'.cell? ⟨g, M * 3, none⟩ = some (.bool F) ∧ w'.cell? ⟨g, 2, none⟩ = some (.int .i64 b.size) := by
        intro vv ww hg ho
        have hall : ∀ k, k ≤ (bufP b :: (laxP lax :: lnAll l)).length → ∃ st, sts fTx (bufP b :: (laxP lax :: lnAll l)) k = some st := fun k hk => by
          cases k with
          | zero => exact ⟨St0, rfl⟩
          | succ k =>
            obtain ⟨st, h1, _⟩ := buf_sts b hb2 _ hnice k (Nat.le_of_succ_le_succ hk)
            exact ⟨st, h1⟩
        refine (buf_encode hV b hb2 (laxP lax :: lnAll l) hnice (by rw [← hM]; exact Nat.le_trans hM0 (by decide)) vv ww hg ho).mono ?_
        intro e w' h
        obtain ⟨g, cap, h1, h2, _, h3, h4⟩ := enc_gen hall hd1 (Nat.succ_pos _) h
        have hl2 : (bufP b :: (laxP lax :: lnAll l)).length = M2 := by rw [List.length_cons, ← hM, hM3]
        rw [hl2, hd2, ← hT] at h1
        rw [hl2, hd3, show M2 - 1 = M by rw [← hM3]; rfl] at h3
        have h5 := (h4 0 { St0 with buf := b.data.toList } (Nat.succ_pos _) (by
          simp only [Nat.zero_add, List.take_succ_cons, List.take_zero, runs, buf_step, Option.bind_some])).2.2
        have e5 : (b.data.toList.length : Int) = (b.size : Int) := by simp
        simp only at h5
        rw [e5] at h5
        exact ⟨g, cap, h1, h2, h3, h5⟩
      obtain ⟨a8, c8, hv8⟩ := hO.own.shape
      rw [← hM] at hv8
      subst hv8
      have HE := Lib.hid hE
      have HE2 := Lib.hid hE2
      have HFW := Lib.hid (HF2.out.trans hO.fr)
      have HOW := Lib.hid hO.own
      have HLE : Hid ([bufP b].length + (laxP lax :: lnAll l).length ≤ 1000000000) := Lib.hid (by rw [← hM, List.length_singleton]; exact Nat.le_trans (Nat.add_le_add_left hM0 1) (by decide))
      clear hlk hO hc1 hc2 hc3 hd1 hd2 hd3 hnice hE hE2 hM hM0 hM1 hM3 hM4 hcap hS hF hSl hT
      go_upto_region 12 with (go_at_call 23; refine HE.out.mono ?_; rintro e w9 ⟨g9, cap9, rfl, hf9, d9⟩; have HF9 := Lib.hid hf9; clear hf9)
      have HOW9 := Lib.hid ((HOW.out.fr HF9.out (by simp)).fr ((Fr.refl [] w9).alloc (.cells (bufP b).cells 38)) (by simp))
      have HF9a := Lib.hid ((HFW.out.trans HF9.out).alloc (.cells (bufP b).cells 38))
      go_upto_region 13 with (first
        | (at_builtin; refine wpAppP (w9.alloc (.cells (bufP b).cells 38)) (o := ⟨some 57, _, _, _, _, _⟩) rfl (.tmp 55) (.tmp 56) rfl (.slice (some ⟨w9.heap.size, 0, none⟩) 1 1) (.slice a8 M c8) [bufP b] (laxP lax :: lnAll l) rfl rfl (own_one w9 (bufP b)) HOW9.out HLE.out ?_; intro v10 w10 ho10 hf10 _; have HO10 := Lib.hid ho10; have HF10 := Lib.hid (((Fr.refl [] w9).alloc (.cells (bufP b).cells 38)).step hf10 (fun t ht => .inr (by simp [Value.ownBlock] at ht; omega))); clear ho10 hf10)
        | (go_at_call 23; refine (HE2.out v10 w10 (HG.out.fr ((HFW.out.trans HF9.out).trans HF10.out) (by simp)) HO10.out).mono ?_; rintro ε w11 ⟨g11, cap11, rfl, hf11, e11, e12⟩; have d11 := hf11.cell (HF10.out.cell d9 (by simp)) (by simp); have HF11 := Lib.hid (((HFW.out.trans HF9.out).trans HF10.out).trans hf11); clear hf11))
      go_upto_region 15 with fail
      go_quiet (fail)
      go_wp2_with fail
      go_ret
      exact ⟨rfl, HF11.out.drewN _⟩
theorem buf_walk (hV : ValidSaid) {ea : Addr} {B0 : Nat} (b : ByteArray) (l : List LnD) (v : Value) (lax : Bool) (w : World) (hG : Gl B0 ea w) (hlen : l.length ≤ 9223372036854775807) (hok : ∀ e, e ∈ l → LnOk e) (hP : LinesIn w v l) :
    Calls Tryz.prog 5 #[.string b, v, .bool lax] w fun e w' => e = .returned (.bool true) ∧ Fr [] w w' := by
  by_cases hb : b.size ≤ 2147483647
  · cases hf : fitLs l with
    | false => exact buf_early2 b l v lax w hb hlen hok hP hf
    | true => exact buf_main hV b l v lax w hb hG hok hP hf
  · exact buf_early1 b v lax w hb
end Go.Proofs.YtaaogjhaokaggaaGreatDoor
namespace Go.Proofs.YtaaogjhaokaggaaGreatDoor
open Go.RowKit

/-- Two slices of calls that were made since w; what was there is as it was. -/
structure Pool (w wc : World) (v1 v2 : Value) (l1 l2 : List PutD) : Prop where
  own1 : OwnC wc 38 12 v1 l1.length (cellsOf l1)
  own2 : OwnC wc 38 12 v2 l2.length (cellsOf l2)
  fr : Fr [] w wc
  new1 : ∀ g, v1.ownBlock = some g → w.heap.size ≤ g
  new2 : ∀ g, v2.ownBlock = some g → w.heap.size ≤ g
  apart : ∀ g, v1.ownBlock = some g → v2.ownBlock ≠ some g
theorem Pool.fr0 {w wc w2 : World} {v1 v2 : Value} {l1 l2 : List PutD} (h : Pool w wc v1 v2 l1 l2) (f : Fr [] wc w2) : Pool w w2 v1 v2 l1 l2 :=
  ⟨h.own1.fr f (by simp), h.own2.fr f (by simp), h.fr.trans f, h.new1, h.new2, h.apart⟩
theorem Pool.app1 {w wc w2 : World} {v1 v2 v : Value} {l1 l2 m : List PutD} (h : Pool w wc v1 v2 l1 l2) (ho : OwnC w2 38 12 v (l1 ++ m).length (cellsOf (l1 ++ m))) (hf : Fr v1.ownBlock.toList wc w2) (hb : v.ownBlock = v1.ownBlock ∨ v.ownBlock = some wc.heap.size) : Pool w w2 v v2 (l1 ++ m) l2 := by
  refine ⟨ho, h.own2.fr hf (fun g hg hm => h.apart g (by simpa using hm) hg), h.fr.step hf (fun t ht => .inr (h.new1 t (by simpa using ht))), fun g hg => ?_, h.new2, fun g hg h2 => ?_⟩
  · rcases hb with hb | hb
    · exact h.new1 g (hb ▸ hg)
    · rw [hb] at hg; cases hg; exact h.fr.size
  · rcases hb with hb | hb
    · exact h.apart g (hb ▸ hg) h2
    · rw [hb] at hg; cases hg; have := h.own2.lt _ h2; omega
theorem Pool.swap {w wc : World} {v1 v2 : Value} {l1 l2 : List PutD} (h : Pool w wc v1 v2 l1 l2) : Pool w wc v2 v1 l2 l1 := ⟨h.own2, h.own1, h.fr, h.new2, h.new1, fun g h2 h1 => h.apart g h1 h2⟩
theorem Pool.app2 {w wc w2 : World} {v1 v2 v : Value} {l1 l2 m : List PutD} (h : Pool w wc v1 v2 l1 l2) (ho : OwnC w2 38 12 v (l2 ++ m).length (cellsOf (l2 ++ m))) (hf : Fr v2.ownBlock.toList wc w2) (hb : v.ownBlock = v2.ownBlock ∨ v.ownBlock = some wc.heap.size) : Pool w w2 v1 v l1 (l2 ++ m) := (h.swap.app1 ho hf hb).swap
/-- A slice of calls besides those of a pool. -/
structure Kept (wc : World) (v1 v2 v : Value) (m : List PutD) : Prop where
  own : OwnC wc 38 12 v m.length (cellsOf m)
  no1 : ∀ g, v.ownBlock = some g → v1.ownBlock ≠ some g
  no2 : ∀ g, v.ownBlock = some g → v2.ownBlock ≠ some g
theorem Kept.fr0 {wc w2 : World} {v1 v2 v : Value} {m : List PutD} (h : Kept wc v1 v2 v m) (f : Fr [] wc w2) : Kept w2 v1 v2 v m := ⟨h.own.fr f (by simp), h.no1, h.no2⟩
theorem Kept.app1 {wc w2 : World} {v1 v2 v u : Value} {m : List PutD} (h : Kept wc v1 v2 v m) (hf : Fr v1.ownBlock.toList wc w2) (hb : u.ownBlock = v1.ownBlock ∨ u.ownBlock = some wc.heap.size) : Kept w2 u v2 v m := by
  refine ⟨h.own.fr hf (fun g hg hm => h.no1 g hg (by simpa using hm)), fun g hg h2 => ?_, h.no2⟩
  rcases hb with hb | hb
  · exact h.no1 g hg (hb ▸ h2)
  · rw [hb] at h2; cases h2; have := h.own.lt _ hg; omega
theorem Kept.app2 {wc w2 : World} {v1 v2 v u : Value} {m : List PutD} (h : Kept wc v1 v2 v m) (hf : Fr v2.ownBlock.toList wc w2) (hb : u.ownBlock = v2.ownBlock ∨ u.ownBlock = some wc.heap.size) : Kept w2 v1 u v m := by
  have := (⟨h.own, h.no2, h.no1⟩ : Kept wc v2 v1 v m).app1 hf hb
  exact ⟨this.own, this.no2, this.no1⟩
theorem Pool.keep {w wa wb w2 : World} {v1 v2 v : Value} {l1 l2 m : List PutD} (h : Pool w wa v1 v2 l1 l2) (hab : Fr [] wa wb) (ho : OutC wb w2 v m) : Pool w w2 v1 v2 l1 l2 ∧ Kept w2 v1 v2 v m := by
  refine ⟨h.fr0 (hab.trans ho.fr), ho.own, fun g hg h1 => ?_, fun g hg h1 => ?_⟩
  · have := ho.new g hg; have := h.own1.lt _ h1; have := hab.size; omega
  · have := ho.new g hg; have := h.own2.lt _ h1; have := hab.size; omega
/-- append(calls, more...) at a step of a region that draws. -/
theorem stepAppP (w : World) {ops : Array Oper} {o : Oper} {a : Act} {K : Act → World → Prop} {Q : Exit → Act → World → Prop} {E : Prop}
    (hg : o.guard = none) (s x : Operand) (hop : o.op = Op.call { callee := Callee.builtin Builtin.append, args := #[s, x], argTypes := #[39, 39] })
    (v xv : Value) (l m : List PutD) (hv : a.eval s = v) (hx : a.eval x = xv) (hown : OwnC w 38 12 v l.length (cellsOf l)) (hs : OwnC w 38 12 xv m.length (cellsOf m)) (hlen : l.length + m.length ≤ 1000000000)
    (hK : ∀ v' w', OwnC w' 38 12 v' (l ++ m).length (cellsOf (l ++ m)) → Fr v.ownBlock.toList w w' → (v'.ownBlock = v.ownBlock ∨ v'.ownBlock = some w.heap.size) → K (a.put o.dst v') w') :
    if Region.wanted o (yielded ops a.tmps) = true then Oper.wp Tryz.prog o a w K Q else E := by
  obtain ⟨i38, hi38, hz38, hs38, hb38⟩ := parts_c info38
  have hw : Region.wanted o (yielded ops a.tmps) = true := by simp [Region.wanted, hg]
  rw [if_pos hw]
  refine wp_append_c w s x 39 39 hop 38 i38 _ Tryz.underlying39 hi38 hz38 12 hs38 hb38 rfl v l.length m.length (cellsOf l) (cellsOf m) xv hv hx hown (hs.src Tryz.underlying39) hlen (fun v' w' h1 h2 h3 => hK v' w' ?_ h2 h3)
  have e : cellsOf (l ++ m) = cellsOf l ++ cellsOf m := by simp [cellsOf]
  rw [e, List.length_append]
  exact h1
end Go.Proofs.YtaaogjhaokaggaaGreatDoor
