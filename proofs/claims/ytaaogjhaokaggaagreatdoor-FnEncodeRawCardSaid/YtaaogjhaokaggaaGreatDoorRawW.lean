import Derived.Test.YtaaogjhaokaggaaGreatDoorEncdW
namespace Go.Proofs.YtaaogjhaokaggaaGreatDoor
open Go.RowKit

def cellsR (l : List PutD) : List Value := l.flatMap (·.cells.toList)
/-- A slice of calls that was made since w. -/
structure RawAt (w wr : World) (v : Value) (l : List PutD) : Prop where
  own : OwnC wr 38 12 v l.length (cellsR l)
  fr : Fr [] w wr
  new : ∀ g, v.ownBlock = some g → w.heap.size ≤ g
theorem RawAt.next {w wr w2 : World} {v v2 : Value} {l : List PutD} {p : PutD} (h : RawAt w wr v l) (ho : OwnC w2 38 12 v2 (l.length + 1) (cellsR l ++ p.cells.toList)) (hf : Fr v.ownBlock.toList wr w2) (hb : v2.ownBlock = v.ownBlock ∨ ∃ g, v2.ownBlock = some g ∧ wr.heap.size ≤ g) : RawAt w w2 v2 (l ++ [p]) := by
  refine ⟨?_, h.fr.step hf (fun t ht => .inr (h.new t (by simpa using ht))), fun g hg => ?_⟩
  · have e : cellsR (l ++ [p]) = cellsR l ++ p.cells.toList := by simp [cellsR]
    rw [e, List.length_append, List.length_singleton]
    exact ho
  · rcases hb with hb | ⟨g', hb, hb'⟩
    · exact h.new g (hb ▸ hg)
    · rw [hb] at hg; cases hg; exact Nat.le_trans h.fr.size hb'
theorem RawAt.fr0 {w wr w2 : World} {v : Value} {l : List PutD} (h : RawAt w wr v l) (f : Fr [] wr w2) : RawAt w w2 v l := ⟨h.own.fr f (by simp), h.fr.trans f, h.new⟩
theorem take_flip {l : List PutD} {k : Nat} {p : PutD} (hp : l[k]? = some p) : (l.take (k + 1)).map flipP = (l.take k).map flipP ++ [flipP p] := by
  rw [List.take_add_one, hp]
  simp
theorem PutsC.of {w : World} {v : Value} {l : List PutD} (h : OwnC w 38 12 v l.length (cellsR l)) : PutsC w v l := by
  rcases h.2.2 with ⟨e, e2⟩ | ⟨g, cap, e, cur, fr, h4, h5, h6, h7, h8⟩
  · exact ⟨none, 0, by rw [e, e2], .inl (List.eq_nil_of_length_eq_zero e2)⟩
  · refine ⟨_, cap, e, .inr ⟨g, 0, rfl, fun i p hp j u hu => ?_⟩⟩
    have h9 := flat_at l i p hp j u hu
    have hl := (List.getElem?_eq_some_iff.1 h9).1
    have h10 := congrArg (fun x => x[i * 12 + j]?) h8
    unfold cellsR at h10 hl
    simp only [List.getElem?_take, if_pos hl, h9] at h10
    rw [cell_of_row w g _ cur 38 fr h4, Nat.zero_add]
    simpa using h10
/-- What Encode answers to calls that are asked about, whether they take bytes or texts. -/
structure AnsE (l : List PutD) (T : ByteArray) (N : Nat) (ok : Bool) (C : List Value) : Prop where
  nz : N ≤ l.length
  all : ok = true → N = l.length
  at_ : ∀ k, k < N → ∃ (x0 x1 : Bool) (x2 : Nat), C[k * 3]? = some (.bool x0) ∧ C[k * 3 + 1]? = some (.bool x1) ∧ C[k * 3 + 2]? = some (.int .i64 x2)
def AnsIs (T : ByteArray) (N : Nat) (ok : Bool) (C : List Value) (w : World) (e : Ending) (w' : World) : Prop := ∃ a c, e = .returned (.tuple #[.string T, .slice a N c, .bool ok]) ∧ OwnC w' 49 3 (.slice a N c) N C ∧ Fr [] w w'
theorem ans_of (l : List PutD) : ∃ T N ok C, AnsE l T N ok C ∧ (∀ w e w', EncRes fTx l w e w' → AnsIs T N ok C w e w') ∧ ∀ w e w', EncRes fTx (l.map flipP) w e w' → AnsIs T N ok C w e w' := by
  cases hs : sts fTx l l.length with
  | none =>
    refine ⟨⟨#[]⟩, 0, false, [], ⟨Nat.zero_le _, fun h => (by cases h), fun k hk => absurd hk (Nat.not_lt_zero _)⟩, fun w e w' h => ?_, fun w e w' h => ?_⟩
    · obtain ⟨h1, h2⟩ := h
      rw [hs] at h2
      exact ⟨none, 0, h2, OwnC.nil _ _ _, h1⟩
    · obtain ⟨h1, h2⟩ := h
      rw [List.length_map, flip_sts, hs] at h2
      exact ⟨none, 0, h2, OwnC.nil _ _ _, h1⟩
  | some st =>
    have hall := all_of_end hs
    refine ⟨⟨st.buf.toArray⟩, l.length, true, stoodL fTx l l.length, ⟨Nat.le_refl _, fun _ => rfl, fun k hk => ?_⟩, fun w e w' h => ?_, fun w e w' h => ?_⟩
    · obtain ⟨s2, h2⟩ := hall (k + 1) (by omega)
      obtain ⟨k1, k2, k3⟩ := stoodL_at fTx l l.length k s2 hk hall h2
      exact ⟨_, _, _, k1, k2, k3⟩
    · obtain ⟨h1, h2⟩ := h
      rw [hs] at h2
      obtain ⟨vl, h3, h4⟩ := h2
      obtain ⟨a, c, rfl⟩ := h4.shape
      exact ⟨a, c, h3, h4, h1⟩
    · obtain ⟨h1, h2⟩ := h
      rw [List.length_map, flip_sts, hs, flip_stoodL] at h2
      obtain ⟨vl, h3, h4⟩ := h2
      obtain ⟨a, c, rfl⟩ := h4.shape
      exact ⟨a, c, h3, h4, h1⟩
theorem ans_cells {w : World} {a : Option Addr} {N c : Nat} {C : List Value} {k : Nat} {x0 x1 : Bool} {x2 : Nat} (h : OwnC w 49 3 (.slice a N c) N C) (hk : k < N) (k1 : C[k * 3]? = some (.bool x0)) (k2 : C[k * 3 + 1]? = some (.bool x1)) (k3 : C[k * 3 + 2]? = some (.int .i64 x2)) :
    ∃ g, a = some ⟨g, 0, none⟩ ∧ w.cell? ⟨g, k * 3, none⟩ = some (.bool x0) ∧ w.cell? ⟨g, k * 3 + 1, none⟩ = some (.bool x1) ∧ w.cell? ⟨g, k * 3 + 2, none⟩ = some (.int .i64 x2) := by
  obtain ⟨g, cap, h1, _, _, h3⟩ := h.row (by omega)
  cases h1
  exact ⟨g, rfl, h3 _ _ k1, h3 _ _ k2, h3 _ _ k3⟩
/-- The one call of the law's own. -/
def oneP : PutD := ⟨0, ⟨#[97]⟩, ⟨#[]⟩, ⟨0, ⟨#[]⟩, 0, 0, 0, false⟩, 0, 0, false⟩
theorem one_bd : ∀ p, p ∈ [oneP] → PutBd p := by
  intro p hp
  simp only [List.mem_singleton] at hp
  subst hp
  exact ⟨⟨by decide, by decide⟩, by decide, by decide, by decide, by decide, by decide, by decide, by decide, by decide, by decide, by decide, by decide⟩
theorem one_put : ∃ e, Sp0.put oneP = some e := by
  have h := sp_line (st := St0) (p := 1) (g := false) (s := false) ⟨.inl ⟨rfl, rfl⟩, fun _ => Nat.zero_le _, fun h => (by cases h), fun _ => ⟨rfl, rfl⟩⟩ oneP.key.data.toList
  refine ⟨spOf (St0.line oneP.key.data.toList) 1 true false, ?_⟩
  unfold Sp.put
  rw [if_pos (.inl rfl)]
  exact h.1
theorem one_asked : Asked [oneP] := by
  obtain ⟨e, he⟩ := one_put
  exact .inl ⟨e, sps_next (l := [oneP]) (k := 0) rfl rfl rfl he⟩
theorem one_sts : ∃ st, sts fTx [oneP] 1 = some st := by
  obtain ⟨e, he⟩ := one_asked.resolve_right (fun ⟨k, e, p, hp, _, hb⟩ => by
    have : p ∈ [oneP] := List.mem_of_getElem? hp
    simp only [List.mem_singleton] at this
    subst this
    exact absurd hb (by decide))
  obtain ⟨st, h, _⟩ := sps_sts he
  exact ⟨st, h⟩
set_option maxRecDepth 100000 in
set_option maxHeartbeats 100000000 in
theorem raw_walk (hV : ValidSaid) {ea : Addr} {B0 : Nat} (l : List PutD) (v : Value) (w : World) (hG : Gl B0 ea w) (hlen : l.length ≤ 9223372036854775807) (hok : ∀ p, p ∈ l → PutOk p) (hP : PutsC w v l) :
    Calls Tryz.prog 12 #[v] w fun e w' => e = .returned (.bool true) ∧ Fr [] w w' := by
  have hsf : ∀ (a : Addr) (k : FloatKind) (b : Nat) (m : Mode) (w : World), (store a (.float k b) m).run Tryz.prog w = stored Tryz.prog w a (.float k b) m := fun a k b m w => run_store Tryz.prog w a _ m rfl
  have hz := zzFits1_any l v w hlen hP
  have HZ := Lib.hid hz
  have HG := Lib.hid hG
  have HP := Lib.hid hP
  have HOK := Lib.hid hok
  have HLP := Lib.hid (fun (h : FitsL l) (w1 : World) (f : Fr [] w w1) => lPuts_any l v w1 h (hP.fr f))
  have hshape : ∃ a c, v = .slice a l.length c := by
    obtain ⟨a, c, rfl, _⟩ := hP
    exact ⟨a, c, rfl⟩
  obtain ⟨a, c, rfl⟩ := hshape
  clear hz hG hP hok hlen
  go_enter Tryz.func12, Tryz.ntmps12
  go_upto_if 23 with (go_at_call 26; refine HZ.out.mono ?_; rintro e w1 ⟨r1, rfl, hr1, hf1⟩; have HR1 := Lib.hid hr1; have HF1 := Lib.hid hf1; clear hr1 hf1)
  cases r1 with
  | false =>
    go_wp2_with fail
    go_ret
    exact ⟨rfl, HF1.out⟩
  | true =>
  have hfit := HR1.out rfl
  have HC2 := Lib.hid (HLP.out hfit w1 HF1.out)
  clear hfit
  go_upto_if 26 with (go_at_call 27; refine HC2.out.mono ?_; rintro e w2 ⟨r2, rfl, hr2, hf2⟩; have HR2 := Lib.hid hr2; have HF2 := Lib.hid (HF1.out.trans hf2); clear hr2 hf2)
  cases r2 with
  | false =>
    go_wp2_with fail
    go_ret
    exact ⟨rfl, HF2.out⟩
  | true =>
  obtain ⟨h200, hsm⟩ := HR2.out rfl
  have hbd : ∀ p, p ∈ l → PutBd p := fun p hp => small_bd (hsm p hp) (HOK.out p hp)
  have HBD := Lib.hid hbd
  have HC3 := Lib.hid (encoded_any l _ w2 (HG.out.fr HF2.out (by simp)) hbd h200 (HP.out.fr HF2.out))
  clear hsm hbd
  go_upto_if 35 with (go_at_call 28; refine HC3.out.mono ?_; intro e w3 hres; obtain ⟨T0, va, vn, vc, fine, asked, rfl, hf3, hgood, hbad⟩ := encd_shape hres; have HGOOD := Lib.hid hgood; have HBAD := Lib.hid hbad; have HF3 := Lib.hid (HF2.out.trans hf3); clear hres hgood hbad hf3)
  cases asked with
  | false =>
    go_wp2_with fail
    go_ret
    exact ⟨rfl, HF3.out⟩
  | true =>
  have hask : Asked l := by
    cases fine with
    | true => obtain ⟨E, hE, _⟩ := HGOOD.out rfl rfl; exact .inl ⟨E, hE⟩
    | false => exact .inr (HBAD.out rfl rfl)
  have HASK := Lib.hid hask
  clear hask
  obtain ⟨T, NN, ok, C, hans, hA, hB⟩ := ans_of l
  have HANS := Lib.hid hans
  have hca : ∀ wx, Fr [] w3 wx → Calls Tryz.prog 23 #[.slice a l.length c] wx (AnsIs T NN ok C wx) := fun wx f => (asked_encode hV l HBD.out h200 HASK.out _ wx (HG.out.fr (HF3.out.trans f) (by simp)) (HP.out.fr (HF3.out.trans f))).mono (fun e w' h => hA wx e w' h)
  have hcb : ∀ (vv : Value) wx, Fr [] w3 wx → OwnC wx 38 12 vv (l.map flipP).length (cellsR (l.map flipP)) → Calls Tryz.prog 23 #[vv] wx (AnsIs T NN ok C wx) := fun vv wx f ho => (asked_encode_flip hV l HBD.out h200 HASK.out vv wx (HG.out.fr (HF3.out.trans f) (by simp)) (PutsC.of ho)).mono (fun e w' h => hB wx e w' h)
  have hone : ∀ wx, Fr [] w3 wx → Calls Tryz.prog 23 #[.slice (some ⟨wx.heap.size, 0, none⟩) 1 1] (wx.alloc (.cells oneP.cells 38)) fun e w' => (∃ T1 v1, e = .returned (.tuple #[.string T1, v1, .bool true])) ∧ Fr [] wx w' := fun wx f => by
    have hal : Fr [] wx (wx.alloc (.cells oneP.cells 38)) := (Fr.refl _ _).alloc _
    have hcells : OwnC (wx.alloc (.cells oneP.cells 38)) 38 12 (.slice (some ⟨wx.heap.size, 0, none⟩) 1 1) [oneP].length (cellsR [oneP]) := by
      have e : cellsR [oneP] = oneP.cells.toList := by simp [cellsR]
      rw [e]
      exact ⟨rfl, by simp [PutD.cells, Value.oneCell'], .inr ⟨_, 1, rfl, oneP.cells, (0, 0), heap_alloc_new wx _, fun j _ h => by omega, by simp [PutD.cells], Nat.le_refl _, by rw [List.take_length]⟩⟩
    refine (asked_encode hV [oneP] one_bd (by decide) one_asked _ _ (HG.out.fr ((HF3.out.trans f).trans hal) (by simp)) (PutsC.of hcells)).mono ?_
    rintro e w' ⟨h1, h2⟩
    obtain ⟨st, hst⟩ := one_sts
    rw [show [oneP].length = 1 from rfl, hst] at h2
    obtain ⟨vl, h3, _⟩ := h2
    exact ⟨⟨_, _, h3⟩, hal.trans h1⟩
  simp only [oneP, PutD.cells] at hone
  have HCA := Lib.hid hca
  have HCB := Lib.hid hcb
  have HONE := Lib.hid hone
  clear hca hcb hone hA hB hans
  obtain ⟨N, hN⟩ : ∃ N, N = l.length := ⟨_, rfl⟩
  have HN := Lib.hid hN
  have hNN : NN ≤ N := by rw [hN]; exact HANS.out.nz
  have hNa : ok = true → NN = N := by rw [hN]; exact HANS.out.all
  have HNA := Lib.hid hNa
  rw [← hN] at h200 HCA ⊢
  clear hN hNa
  have hNi : (N : Int) ≤ 200 := by omega
  obtain ⟨i38, hi38, hz38, hs38, hb38⟩ := parts_c info38
  have HI38 := Lib.hid (And.intro hi38 (And.intro hz38 (And.intro hs38 hb38)))
  clear hi38 hz38 hs38 hb38
  go_wp2_with fail
  go_loopw [7, 38] (fun ur i wr => ∃ k : Nat, k ≤ N ∧ i = .int .i64 k ∧ Hid (RawAt w3 wr ur ((l.take k).map flipP))) (fun _ i _ => N - (intOf i).toNat)
  case atStart => exact ⟨0, Nat.zero_le _, rfl, Lib.hid ⟨OwnC.nil _ _ _, Fr.refl _ _, by simp [Value.ownBlock]⟩⟩
  case round =>
    obtain ⟨k, hk, rfl, HA⟩ := hrel
    by_cases hlt : k < N
    case neg =>
      have hkN : k = N := by omega
      subst hkN
      have HAr : Hid (RawAt w3 wr u7 (l.map flipP)) := Lib.hid (by have := HA.out; rw [List.take_of_length_le (by rw [← HN.out]; omega)] at this; exact this)
      clear hlt hk HA
      go_upto_region 25 with (first
        | (go_at_call_of 23 (Value.slice a k c); refine (HCA.out wr HAr.out.fr).mono ?_; rintro e w4 ⟨a4, c4, rfl, ho4, hf4⟩; have HO4 := Lib.hid ho4; have HF4 := Lib.hid (HAr.out.fr.trans hf4); have HB4 := Lib.hid (HAr.out.own.fr hf4 (by simp)); clear ho4 hf4)
        | (go_at_call_of 23 u7; refine (HCB.out u7 w4 HF4.out HB4.out).mono ?_; rintro e w5 ⟨a5, c5, rfl, ho5, hf5⟩; have HO5 := Lib.hid ho5; have HO45 := Lib.hid (HO4.out.fr hf5 (by simp)); have HF5 := Lib.hid (HF4.out.trans hf5); clear ho5 hf5))
      have hNNi : (NN : Int) ≤ 200 := by omega
      cases ok
      all_goals
        try (have hnk := HNA.out rfl; subst hnk)
        go_wp2_with fail
        go_loopw [104] (fun i wr2 => ∃ k2 : Nat, k2 ≤ NN ∧ i = .int .i64 k2 ∧ Hid (Fr [] w5 wr2)) (fun i _ => NN - (intOf i).toNat)
        case atStart => exact ⟨0, Nat.zero_le _, rfl, Lib.hid (Fr.refl _ _)⟩
        case round =>
          obtain ⟨k2, hk2, rfl, HFR⟩ := hrel
          by_cases hl2 : k2 < NN
          case neg =>
            go_wp2_with (go_at_call 23; refine (HONE.out _ (HF5.out.trans HFR.out)).mono ?_; rintro e w6 ⟨⟨T1, v1, rfl⟩, hf6⟩)
            go_ret
            exact ⟨rfl, ((HF3.out.trans HF5.out).trans HFR.out).trans hf6⟩
          obtain ⟨x0, x1, x2, k0, k1, kk2⟩ := HANS.out.at_ k2 hl2
          obtain ⟨g4, hg4, d0, d1, d2⟩ := ans_cells (HO45.out.fr HFR.out (by simp)) hl2 k0 k1 kk2
          obtain ⟨g5, hg5, b0, b1, b2⟩ := ans_cells (HO5.out.fr HFR.out (by simp)) hl2 k0 k1 kk2
          subst hg4 hg5
          clear k0 k1 kk2
          have hl2I : (k2 : Int) < NN := by omega
          have hal : Fr [] wr (wr.alloc (.cells #[.bool x0, .bool x1, .int .i64 x2] 49)) := (Fr.refl _ _).alloc _
          have e0 := hal.cell b0 (by simp)
          have e1 := hal.cell b1 (by simp)
          have e2 := hal.cell b2 (by simp)
          have HAL := Lib.hid hal
          clear hal
          go_upto_region 30 with fail
          go_quiet (fail)
          go_wp2_with fail
          go_roundw
          case rel => exact ⟨k2 + 1, by omega, by go_num, Lib.hid ((HFR.out.trans HAL.out).drewN _)⟩
          case measure => simp [intOf]; omega
    obtain ⟨p, hp⟩ : ∃ p, l[k]? = some p := ⟨l[k]'(by rw [← HN.out]; exact hlt), List.getElem?_eq_getElem (by rw [← HN.out]; exact hlt)⟩
    obtain ⟨g, off, cap, hv, hcell⟩ := (HP.out.fr (HF3.out.trans HA.out.fr)).at (by rw [← HN.out]; omega)
    rw [← HN.out] at hv
    have hc := hcell k p hp
    have hbp := (HBD.out p (List.mem_of_getElem? hp)).op
    clear hcell
    cases hv
    have hltI : (k : Int) < N := by omega
    have HPK := Lib.hid hp
    clear hp
    obtain ⟨op, key, value, ⟨kind, s, vn, u, f, x⟩, n, m, z⟩ := p
    simp only [PutD.cells] at hc
    simp only at hbp
    have c0 : wr.cell? ⟨g, off + k * 12, none⟩ = _ := hc 0 _ rfl
    have c1 := hc 1 _ rfl
    have c2 := hc 2 _ rfl
    have c3 := hc 3 _ rfl
    have c4 := hc 4 _ rfl
    have c5 := hc 5 _ rfl
    have c6 := hc 6 _ rfl
    have c7 := hc 7 _ rfl
    have c8 := hc 8 _ rfl
    have c9 := hc 9 _ rfl
    have c10 := hc 10 _ rfl
    have c11 := hc 11 _ rfl
    clear hc
    by_cases ho : 3 ≤ op ∧ op ≤ 8
    · have q0 : (op == 0) = false := by rw [beq_eq_false_iff_ne]; omega
      have q1 : (op == 1) = false := by rw [beq_eq_false_iff_ne]; omega
      have q2 : (op == 2) = false := by rw [beq_eq_false_iff_ne]; omega
      have q9 : (op == 9) = false := by rw [beq_eq_false_iff_ne]; omega
      have q10 : (op == 10) = false := by rw [beq_eq_false_iff_ne]; omega
      have q11 : (op == 11) = false := by rw [beq_eq_false_iff_ne]; omega
      go_upto_region 21 with fail
      obtain ⟨w5, hw5, hr5, hf5⟩ : ∃ q, wr.alloc (.cells #[.int .i64 op, .string key, .string value, .int .i64 kind, .string s, .int .i64 vn, .int .u64 u, .float .f64 f, .bool x, .int .i64 n, .int .i64 m, .bool z] 38) = q ∧ q.heap[wr.heap.size]? = some (.cells #[.int .i64 op, .string key, .string value, .int .i64 kind, .string s, .int .i64 vn, .int .u64 u, .float .f64 f, .bool x, .int .i64 n, .int .i64 m, .bool z] 38 (0, 0)) ∧ Fr [] wr q := ⟨_, rfl, heap_alloc_new _ _, (Fr.refl [] wr).alloc _⟩
      rw [hw5]
      have HR5 := Lib.hid hr5
      have HA5 := Lib.hid (HA.out.fr0 hf5)
      clear hw5 hr5 hf5 c0 c1 c2 c3 c4 c5 c6 c7 c8 c9 c10 c11
      obtain ⟨e0, e1, e2, e3, e4, e5, e6, e7, e8, e9, e10, e11⟩ := box_all HR5.out
      go_upto_region 22 with (at_builtin; refine wpApp1C w5 (o := ⟨some 63, _, _, _, _, _⟩) rfl (.tmp 60) (.tmp 62) 39 rfl 38 i38 _ Tryz.underlying39 HI38.out.1 HI38.out.2.1 12 HI38.out.2.2.1 HI38.out.2.2.2 rfl u7 ((l.take k).map flipP).length (cellsR ((l.take k).map flipP)) #[.int .i64 op, .string key, .string value, .int .i64 kind, .string s, .int .i64 vn, .int .u64 u, .float .f64 f, .bool x, .int .i64 n, .int .i64 m, .bool z] rfl (by simp [Value.oneCell']) rfl rfl HA5.out.own (by rw [List.length_map, List.length_take]; omega) ?_; intro v11 w11 ho11 hf11 hb11; have HO11 := Lib.hid ho11; have HF11 := Lib.hid hf11; have HB11 := Lib.hid hb11; clear ho11 hf11 hb11)
      have hcs : (flipP ⟨op, key, value, ⟨kind, s, vn, u, f, x⟩, n, m, z⟩).cells = #[.int .i64 op, .string key, .string value, .int .i64 kind, .string s, .int .i64 vn, .int .u64 u, .float .f64 f, .bool x, .int .i64 n, .int .i64 m, .bool z] := by
        unfold flipP PutD.cells
        rw [show flipOp op = op by unfold flipOp; rw [if_neg (by omega), if_neg (by omega)]]
      have HNX : Hid (RawAt w3 w11 v11 ((l.take (k + 1)).map flipP)) := Lib.hid (by rw [take_flip HPK.out]; exact HA5.out.next (by rw [hcs]; exact HO11.out) HF11.out HB11.out)
      clear hcs
      go_wp2_with fail
      go_roundw
      case rel => exact ⟨k + 1, by omega, by go_num, HNX⟩
      case measure => simp [intOf]; omega
    have hcs : op = 0 ∨ op = 1 ∨ op = 2 ∨ op = 9 ∨ op = 10 ∨ op = 11 := by omega
    clear ho hbp
    rcases hcs with rfl | rfl | rfl | rfl | rfl | rfl
    · go_upto_region 21 with fail
      obtain ⟨w5, hw5, hr5, hf5⟩ : ∃ q, wr.alloc (.cells #[.int .i64 9, .string key, .string value, .int .i64 kind, .string s, .int .i64 vn, .int .u64 u, .float .f64 f, .bool x, .int .i64 n, .int .i64 m, .bool z] 38) = q ∧ q.heap[wr.heap.size]? = some (.cells #[.int .i64 9, .string key, .string value, .int .i64 kind, .string s, .int .i64 vn, .int .u64 u, .float .f64 f, .bool x, .int .i64 n, .int .i64 m, .bool z] 38 (0, 0)) ∧ Fr [] wr q := ⟨_, rfl, heap_alloc_new _ _, (Fr.refl [] wr).alloc _⟩
      rw [hw5]
      have HR5 := Lib.hid hr5
      have HA5 := Lib.hid (HA.out.fr0 hf5)
      clear hw5 hr5 hf5 c0 c1 c2 c3 c4 c5 c6 c7 c8 c9 c10 c11
      obtain ⟨e0, e1, e2, e3, e4, e5, e6, e7, e8, e9, e10, e11⟩ := box_all HR5.out
      go_upto_region 22 with (at_builtin; refine wpApp1C w5 (o := ⟨some 63, _, _, _, _, _⟩) rfl (.tmp 60) (.tmp 62) 39 rfl 38 i38 _ Tryz.underlying39 HI38.out.1 HI38.out.2.1 12 HI38.out.2.2.1 HI38.out.2.2.2 rfl u7 ((l.take k).map flipP).length (cellsR ((l.take k).map flipP)) #[.int .i64 9, .string key, .string value, .int .i64 kind, .string s, .int .i64 vn, .int .u64 u, .float .f64 f, .bool x, .int .i64 n, .int .i64 m, .bool z] rfl (by simp [Value.oneCell']) rfl rfl HA5.out.own (by rw [List.length_map, List.length_take]; omega) ?_; intro v11 w11 ho11 hf11 hb11; have HO11 := Lib.hid ho11; have HF11 := Lib.hid hf11; have HB11 := Lib.hid hb11; clear ho11 hf11 hb11)
      have hcs : (flipP ⟨0, key, value, ⟨kind, s, vn, u, f, x⟩, n, m, z⟩).cells = #[.int .i64 9, .string key, .string value, .int .i64 kind, .string s, .int .i64 vn, .int .u64 u, .float .f64 f, .bool x, .int .i64 n, .int .i64 m, .bool z] := by
        unfold flipP PutD.cells
        rw [show flipOp 0 = 9 by decide]
      have HNX : Hid (RawAt w3 w11 v11 ((l.take (k + 1)).map flipP)) := Lib.hid (by rw [take_flip HPK.out]; exact HA5.out.next (by rw [hcs]; exact HO11.out) HF11.out HB11.out)
      clear hcs
      go_wp2_with fail
      go_roundw
      case rel => exact ⟨k + 1, by omega, by go_num, HNX⟩
      case measure => simp [intOf]; omega
    · go_upto_region 21 with fail
      obtain ⟨w5, hw5, hr5, hf5⟩ : ∃ q, wr.alloc (.cells #[.int .i64 10, .string key, .string value, .int .i64 kind, .string s, .int .i64 vn, .int .u64 u, .float .f64 f, .bool x, .int .i64 n, .int .i64 m, .bool z] 38) = q ∧ q.heap[wr.heap.size]? = some (.cells #[.int .i64 10, .string key, .string value, .int .i64 kind, .string s, .int .i64 vn, .int .u64 u, .float .f64 f, .bool x, .int .i64 n, .int .i64 m, .bool z] 38 (0, 0)) ∧ Fr [] wr q := ⟨_, rfl, heap_alloc_new _ _, (Fr.refl [] wr).alloc _⟩
      rw [hw5]
      have HR5 := Lib.hid hr5
      have HA5 := Lib.hid (HA.out.fr0 hf5)
      clear hw5 hr5 hf5 c0 c1 c2 c3 c4 c5 c6 c7 c8 c9 c10 c11
      obtain ⟨e0, e1, e2, e3, e4, e5, e6, e7, e8, e9, e10, e11⟩ := box_all HR5.out
      go_upto_region 22 with (at_builtin; refine wpApp1C w5 (o := ⟨some 63, _, _, _, _, _⟩) rfl (.tmp 60) (.tmp 62) 39 rfl 38 i38 _ Tryz.underlying39 HI38.out.1 HI38.out.2.1 12 HI38.out.2.2.1 HI38.out.2.2.2 rfl u7 ((l.take k).map flipP).length (cellsR ((l.take k).map flipP)) #[.int .i64 10, .string key, .string value, .int .i64 kind, .string s, .int .i64 vn, .int .u64 u, .float .f64 f, .bool x, .int .i64 n, .int .i64 m, .bool z] rfl (by simp [Value.oneCell']) rfl rfl HA5.out.own (by rw [List.length_map, List.length_take]; omega) ?_; intro v11 w11 ho11 hf11 hb11; have HO11 := Lib.hid ho11; have HF11 := Lib.hid hf11; have HB11 := Lib.hid hb11; clear ho11 hf11 hb11)
      have hcs : (flipP ⟨1, key, value, ⟨kind, s, vn, u, f, x⟩, n, m, z⟩).cells = #[.int .i64 10, .string key, .string value, .int .i64 kind, .string s, .int .i64 vn, .int .u64 u, .float .f64 f, .bool x, .int .i64 n, .int .i64 m, .bool z] := by
        unfold flipP PutD.cells
        rw [show flipOp 1 = 10 by decide]
      have HNX : Hid (RawAt w3 w11 v11 ((l.take (k + 1)).map flipP)) := Lib.hid (by rw [take_flip HPK.out]; exact HA5.out.next (by rw [hcs]; exact HO11.out) HF11.out HB11.out)
      clear hcs
      go_wp2_with fail
      go_roundw
      case rel => exact ⟨k + 1, by omega, by go_num, HNX⟩
      case measure => simp [intOf]; omega
    · go_upto_region 21 with fail
      obtain ⟨w5, hw5, hr5, hf5⟩ : ∃ q, wr.alloc (.cells #[.int .i64 11, .string key, .string value, .int .i64 kind, .string s, .int .i64 vn, .int .u64 u, .float .f64 f, .bool x, .int .i64 n, .int .i64 m, .bool z] 38) = q ∧ q.heap[wr.heap.size]? = some (.cells #[.int .i64 11, .string key, .string value, .int .i64 kind, .string s, .int .i64 vn, .int .u64 u, .float .f64 f, .bool x, .int .i64 n, .int .i64 m, .bool z] 38 (0, 0)) ∧ Fr [] wr q := ⟨_, rfl, heap_alloc_new _ _, (Fr.refl [] wr).alloc _⟩
      rw [hw5]
      have HR5 := Lib.hid hr5
      have HA5 := Lib.hid (HA.out.fr0 hf5)
      clear hw5 hr5 hf5 c0 c1 c2 c3 c4 c5 c6 c7 c8 c9 c10 c11
      obtain ⟨e0, e1, e2, e3, e4, e5, e6, e7, e8, e9, e10, e11⟩ := box_all HR5.out
      go_upto_region 22 with (at_builtin; refine wpApp1C w5 (o := ⟨some 63, _, _, _, _, _⟩) rfl (.tmp 60) (.tmp 62) 39 rfl 38 i38 _ Tryz.underlying39 HI38.out.1 HI38.out.2.1 12 HI38.out.2.2.1 HI38.out.2.2.2 rfl u7 ((l.take k).map flipP).length (cellsR ((l.take k).map flipP)) #[.int .i64 11, .string key, .string value, .int .i64 kind, .string s, .int .i64 vn, .int .u64 u, .float .f64 f, .bool x, .int .i64 n, .int .i64 m, .bool z] rfl (by simp [Value.oneCell']) rfl rfl HA5.out.own (by rw [List.length_map, List.length_take]; omega) ?_; intro v11 w11 ho11 hf11 hb11; have HO11 := Lib.hid ho11; have HF11 := Lib.hid hf11; have HB11 := Lib.hid hb11; clear ho11 hf11 hb11)
      have hcs : (flipP ⟨2, key, value, ⟨kind, s, vn, u, f, x⟩, n, m, z⟩).cells = #[.int .i64 11, .string key, .string value, .int .i64 kind, .string s, .int .i64 vn, .int .u64 u, .float .f64 f, .bool x, .int .i64 n, .int .i64 m, .bool z] := by
        unfold flipP PutD.cells
        rw [show flipOp 2 = 11 by decide]
      have HNX : Hid (RawAt w3 w11 v11 ((l.take (k + 1)).map flipP)) := Lib.hid (by rw [take_flip HPK.out]; exact HA5.out.next (by rw [hcs]; exact HO11.out) HF11.out HB11.out)
      clear hcs
      go_wp2_with fail
      go_roundw
      case rel => exact ⟨k + 1, by omega, by go_num, HNX⟩
      case measure => simp [intOf]; omega
    · go_upto_region 21 with fail
      obtain ⟨w5, hw5, hr5, hf5⟩ : ∃ q, wr.alloc (.cells #[.int .i64 0, .string key, .string value, .int .i64 kind, .string s, .int .i64 vn, .int .u64 u, .float .f64 f, .bool x, .int .i64 n, .int .i64 m, .bool z] 38) = q ∧ q.heap[wr.heap.size]? = some (.cells #[.int .i64 0, .string key, .string value, .int .i64 kind, .string s, .int .i64 vn, .int .u64 u, .float .f64 f, .bool x, .int .i64 n, .int .i64 m, .bool z] 38 (0, 0)) ∧ Fr [] wr q := ⟨_, rfl, heap_alloc_new _ _, (Fr.refl [] wr).alloc _⟩
      rw [hw5]
      have HR5 := Lib.hid hr5
      have HA5 := Lib.hid (HA.out.fr0 hf5)
      clear hw5 hr5 hf5 c0 c1 c2 c3 c4 c5 c6 c7 c8 c9 c10 c11
      obtain ⟨e0, e1, e2, e3, e4, e5, e6, e7, e8, e9, e10, e11⟩ := box_all HR5.out
      go_upto_region 22 with (at_builtin; refine wpApp1C w5 (o := ⟨some 63, _, _, _, _, _⟩) rfl (.tmp 60) (.tmp 62) 39 rfl 38 i38 _ Tryz.underlying39 HI38.out.1 HI38.out.2.1 12 HI38.out.2.2.1 HI38.out.2.2.2 rfl u7 ((l.take k).map flipP).length (cellsR ((l.take k).map flipP)) #[.int .i64 0, .string key, .string value, .int .i64 kind, .string s, .int .i64 vn, .int .u64 u, .float .f64 f, .bool x, .int .i64 n, .int .i64 m, .bool z] rfl (by simp [Value.oneCell']) rfl rfl HA5.out.own (by rw [List.length_map, List.length_take]; omega) ?_; intro v11 w11 ho11 hf11 hb11; have HO11 := Lib.hid ho11; have HF11 := Lib.hid hf11; have HB11 := Lib.hid hb11; clear ho11 hf11 hb11)
      have hcs : (flipP ⟨9, key, value, ⟨kind, s, vn, u, f, x⟩, n, m, z⟩).cells = #[.int .i64 0, .string key, .string value, .int .i64 kind, .string s, .int .i64 vn, .int .u64 u, .float .f64 f, .bool x, .int .i64 n, .int .i64 m, .bool z] := by
        unfold flipP PutD.cells
        rw [show flipOp 9 = 0 by decide]
      have HNX : Hid (RawAt w3 w11 v11 ((l.take (k + 1)).map flipP)) := Lib.hid (by rw [take_flip HPK.out]; exact HA5.out.next (by rw [hcs]; exact HO11.out) HF11.out HB11.out)
      clear hcs
      go_wp2_with fail
      go_roundw
      case rel => exact ⟨k + 1, by omega, by go_num, HNX⟩
      case measure => simp [intOf]; omega
    · go_upto_region 21 with fail
      obtain ⟨w5, hw5, hr5, hf5⟩ : ∃ q, wr.alloc (.cells #[.int .i64 1, .string key, .string value, .int .i64 kind, .string s, .int .i64 vn, .int .u64 u, .float .f64 f, .bool x, .int .i64 n, .int .i64 m, .bool z] 38) = q ∧ q.heap[wr.heap.size]? = some (.cells #[.int .i64 1, .string key, .string value, .int .i64 kind, .string s, .int .i64 vn, .int .u64 u, .float .f64 f, .bool x, .int .i64 n, .int .i64 m, .bool z] 38 (0, 0)) ∧ Fr [] wr q := ⟨_, rfl, heap_alloc_new _ _, (Fr.refl [] wr).alloc _⟩
      rw [hw5]
      have HR5 := Lib.hid hr5
      have HA5 := Lib.hid (HA.out.fr0 hf5)
      clear hw5 hr5 hf5 c0 c1 c2 c3 c4 c5 c6 c7 c8 c9 c10 c11
      obtain ⟨e0, e1, e2, e3, e4, e5, e6, e7, e8, e9, e10, e11⟩ := box_all HR5.out
      go_upto_region 22 with (at_builtin; refine wpApp1C w5 (o := ⟨some 63, _, _, _, _, _⟩) rfl (.tmp 60) (.tmp 62) 39 rfl 38 i38 _ Tryz.underlying39 HI38.out.1 HI38.out.2.1 12 HI38.out.2.2.1 HI38.out.2.2.2 rfl u7 ((l.take k).map flipP).length (cellsR ((l.take k).map flipP)) #[.int .i64 1, .string key, .string value, .int .i64 kind, .string s, .int .i64 vn, .int .u64 u, .float .f64 f, .bool x, .int .i64 n, .int .i64 m, .bool z] rfl (by simp [Value.oneCell']) rfl rfl HA5.out.own (by rw [List.length_map, List.length_take]; omega) ?_; intro v11 w11 ho11 hf11 hb11; have HO11 := Lib.hid ho11; have HF11 := Lib.hid hf11; have HB11 := Lib.hid hb11; clear ho11 hf11 hb11)
      have hcs : (flipP ⟨10, key, value, ⟨kind, s, vn, u, f, x⟩, n, m, z⟩).cells = #[.int .i64 1, .string key, .string value, .int .i64 kind, .string s, .int .i64 vn, .int .u64 u, .float .f64 f, .bool x, .int .i64 n, .int .i64 m, .bool z] := by
        unfold flipP PutD.cells
        rw [show flipOp 10 = 1 by decide]
      have HNX : Hid (RawAt w3 w11 v11 ((l.take (k + 1)).map flipP)) := Lib.hid (by rw [take_flip HPK.out]; exact HA5.out.next (by rw [hcs]; exact HO11.out) HF11.out HB11.out)
      clear hcs
      go_wp2_with fail
      go_roundw
      case rel => exact ⟨k + 1, by omega, by go_num, HNX⟩
      case measure => simp [intOf]; omega
    · go_upto_region 21 with fail
      obtain ⟨w5, hw5, hr5, hf5⟩ : ∃ q, wr.alloc (.cells #[.int .i64 2, .string key, .string value, .int .i64 kind, .string s, .int .i64 vn, .int .u64 u, .float .f64 f, .bool x, .int .i64 n, .int .i64 m, .bool z] 38) = q ∧ q.heap[wr.heap.size]? = some (.cells #[.int .i64 2, .string key, .string value, .int .i64 kind, .string s, .int .i64 vn, .int .u64 u, .float .f64 f, .bool x, .int .i64 n, .int .i64 m, .bool z] 38 (0, 0)) ∧ Fr [] wr q := ⟨_, rfl, heap_alloc_new _ _, (Fr.refl [] wr).alloc _⟩
      rw [hw5]
      have HR5 := Lib.hid hr5
      have HA5 := Lib.hid (HA.out.fr0 hf5)
      clear hw5 hr5 hf5 c0 c1 c2 c3 c4 c5 c6 c7 c8 c9 c10 c11
      obtain ⟨e0, e1, e2, e3, e4, e5, e6, e7, e8, e9, e10, e11⟩ := box_all HR5.out
      go_upto_region 22 with (at_builtin; refine wpApp1C w5 (o := ⟨some 63, _, _, _, _, _⟩) rfl (.tmp 60) (.tmp 62) 39 rfl 38 i38 _ Tryz.underlying39 HI38.out.1 HI38.out.2.1 12 HI38.out.2.2.1 HI38.out.2.2.2 rfl u7 ((l.take k).map flipP).length (cellsR ((l.take k).map flipP)) #[.int .i64 2, .string key, .string value, .int .i64 kind, .string s, .int .i64 vn, .int .u64 u, .float .f64 f, .bool x, .int .i64 n, .int .i64 m, .bool z] rfl (by simp [Value.oneCell']) rfl rfl HA5.out.own (by rw [List.length_map, List.length_take]; omega) ?_; intro v11 w11 ho11 hf11 hb11; have HO11 := Lib.hid ho11; have HF11 := Lib.hid hf11; have HB11 := Lib.hid hb11; clear ho11 hf11 hb11)
      have hcs : (flipP ⟨11, key, value, ⟨kind, s, vn, u, f, x⟩, n, m, z⟩).cells = #[.int .i64 2, .string key, .string value, .int .i64 kind, .string s, .int .i64 vn, .int .u64 u, .float .f64 f, .bool x, .int .i64 n, .int .i64 m, .bool z] := by
        unfold flipP PutD.cells
        rw [show flipOp 11 = 2 by decide]
      have HNX : Hid (RawAt w3 w11 v11 ((l.take (k + 1)).map flipP)) := Lib.hid (by rw [take_flip HPK.out]; exact HA5.out.next (by rw [hcs]; exact HO11.out) HF11.out HB11.out)
      clear hcs
      go_wp2_with fail
      go_roundw
      case rel => exact ⟨k + 1, by omega, by go_num, HNX⟩
      case measure => simp [intOf]; omega
end Go.Proofs.YtaaogjhaokaggaaGreatDoor
