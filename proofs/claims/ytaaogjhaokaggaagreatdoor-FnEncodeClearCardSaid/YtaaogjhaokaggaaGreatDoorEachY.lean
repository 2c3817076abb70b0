import Derived.Test.YtaaogjhaokaggaaGreatDoorEachR
import Derived.Test.YtaaogjhaokaggaaGreatDoorEachC
import Derived.BigQuiet
import Derived.Laws.Concat
namespace Go.Proofs.YtaaogjhaokaggaaGreatDoor
open Go.RowKit

set_option maxRecDepth 100000 in
set_option maxHeartbeats 4000000 in
theorem each_early (l : List LnD) (v : Value) (lax : Bool) (q : Int) (w : World) (hlen : l.length ≤ 9223372036854775807) (hok : ∀ e, e ∈ l → LnOk e) (hP : LinesIn w v l) (hf : fitLs l = false) :
    Calls Tryz.prog 7 #[v, .bool lax, .int .i64 q] w fun e w' => e = .returned (.bool true) ∧ Fr [] w w' := by
  have hz := zzFits4_any l v w hlen hok hP
  rw [hf] at hz
  have HZ := Lib.hid hz
  clear hz hP hok hf
  go_enter Tryz.func7, Tryz.ntmps7
  go_wp2_with (go_at_call 20; refine HZ.out.mono ?_; rintro e w1 ⟨rfl, hf1⟩)
  go_ret
  exact ⟨rfl, hf1⟩
theorem fits_len {l : List LnD} (h : fitLs l = true) : l.length ≤ 2147483647 := by
  unfold fitLs at h
  rw [Bool.and_eq_true] at h
  exact of_decide_eq_true h.1
set_option maxRecDepth 100000 in
set_option maxHeartbeats 4000000 in
theorem each_early2 (l : List LnD) (v : Value) (lax : Bool) (q : Int) (w : World) (hok : ∀ e, e ∈ l → LnOk e) (hP : LinesIn w v l) (hf : fitLs l = true) (hq : q < 0 ∨ 3 < q) :
    Calls Tryz.prog 7 #[v, .bool lax, .int .i64 q] w fun e w' => e = .returned (.bool true) ∧ Fr [] w w' := by
  have hlen := fits_len hf
  have hz := zzFits4_any l v w (by omega) hok hP
  rw [hf] at hz
  have hl := fun w1 (h : Fr [] w w1) => lLines_any l v w1 hlen hf (hP.fr h)
  have HZ := Lib.hid hz
  have HL := Lib.hid hl
  clear hz hP hok hf hl
  rcases hq with hq | hq
  · go_enter Tryz.func7, Tryz.ntmps7
    go_wp2_with (first
      | (go_at_call 20; refine HZ.out.mono ?_; rintro e w1 ⟨rfl, hf1⟩; have HF1 := Lib.hid hf1; clear hf1)
      | (go_at_call 21; refine (HL.out _ HF1.out).mono ?_; rintro e w2 ⟨⟨b, rfl, hb⟩, hf2⟩; have HF2 := Lib.hid (HF1.out.trans hf2); clear hf2 hb; cases b))
    all_goals
      go_ret
      exact ⟨rfl, HF2.out⟩
  · have hq0 : 0 ≤ q := by omega
    go_enter Tryz.func7, Tryz.ntmps7
    go_wp2_with (first
      | (go_at_call 20; refine HZ.out.mono ?_; rintro e w1 ⟨rfl, hf1⟩; have HF1 := Lib.hid hf1; clear hf1)
      | (go_at_call 21; refine (HL.out _ HF1.out).mono ?_; rintro e w2 ⟨⟨b, rfl, hb⟩, hf2⟩; have HF2 := Lib.hid (HF1.out.trans hf2); clear hf2 hb; cases b))
    all_goals
      go_ret
      exact ⟨rfl, HF2.out⟩
end Go.Proofs.YtaaogjhaokaggaaGreatDoor
namespace Go.Proofs.YtaaogjhaokaggaaGreatDoor
open Go.RowKit

theorem own_empty (w : World) : OwnC (w.alloc (.cells #[] 38)) 38 12 (.slice (some ⟨w.heap.size, 0, none⟩) 0 0) 0 [] :=
  ⟨rfl, by simp, .inr ⟨_, 0, rfl, #[], (0, 0), heap_alloc_new w _, fun j _ h => by omega, by simp, Nat.le_refl _, rfl⟩⟩
/-- append([]Put{}, x...). -/
theorem wpAppE (w : World) {ops : Array Oper} {rest : List Oper} {o : Oper} {a : Act} {Q : Exit → Act → World → Prop}
    (hg : o.guard = none) (s x : Operand) (hop : o.op = Op.call { callee := Callee.builtin Builtin.append, args := #[s, x], argTypes := #[39, 39] })
    (xv : Value) (m : List PutD) (hv : a.eval s = .slice (some ⟨w.heap.size, 0, none⟩) 0 0) (hx : a.eval x = xv) (hs : OwnC w 38 12 xv m.length (cellsOf m)) (hlen : m.length ≤ 1000000000)
    (hK : ∀ v' w', OwnC w' 38 12 v' m.length (cellsOf m) → Fr [] w w' → (∀ g, v'.ownBlock = some g → w.heap.size ≤ g) → wpList Tryz.prog ops Q rest (a.put o.dst v') w') :
    wpList Tryz.prog ops Q (o :: rest) a (w.alloc (.cells #[] 38)) := by
  have hal : Fr [] w (w.alloc (.cells #[] 38)) := (Fr.refl _ _).alloc _
  refine wpAppP _ hg s x hop _ xv [] m hv hx (own_empty w) (hs.fr hal (by simp)) (by simp; omega) (fun v' w' h1 h2 h3 => hK v' w' ?_ ?_ ?_)
  · simpa using h1
  · exact hal.step h2 (fun t ht => .inr (by simp [Value.ownBlock] at ht; omega))
  · intro g hg
    rcases h3 with h | h
    · rw [h] at hg; simp [Value.ownBlock] at hg; omega
    · rw [h] at hg; simp at hg; omega
theorem OutC.app {w wr w2 : World} {v v2 : Value} {l m : List PutD} (h : OutC w wr v l) (ho : OwnC w2 38 12 v2 (l ++ m).length (cellsOf (l ++ m))) (hf : Fr v.ownBlock.toList wr w2) (hb : v2.ownBlock = v.ownBlock ∨ v2.ownBlock = some wr.heap.size) : OutC w w2 v2 (l ++ m) := by
  refine ⟨ho, h.fr.step hf (fun t ht => .inr (h.new t (by simpa using ht))), fun g hg => ?_⟩
  rcases hb with h2 | h2
  · exact h.new g (h2 ▸ hg)
  · rw [h2] at hg; cases hg; exact h.fr.size
theorem begin_cells (lax : Bool) (q : Int) : cellsOf (beginP lax q) = [.int .i64 7, .string ⟨#[]⟩, .string ⟨#[]⟩, .int .i64 0, .string ⟨#[]⟩, .int .i64 0, .int .u64 0, .float .f64 0, .bool false, .int .i64 0, .int .i64 0, .bool lax,
  .int .i64 6, .string ⟨#[]⟩, .string ⟨#[]⟩, .int .i64 0, .string ⟨#[]⟩, .int .i64 0, .int .u64 0, .float .f64 0, .bool false, .int .i64 q, .int .i64 0, .bool false] := rfl
theorem nice_begin (lax : Bool) (q : Int) (q0 : 0 ≤ q) (q3 : q ≤ 3) : ∀ p, p ∈ beginP lax q → Nice p := by
  intro p hp
  simp only [beginP, List.mem_cons, List.not_mem_nil, or_false] at hp
  rcases hp with rfl | rfl
  · exact {
      op := by simp [laxP]
      key := show (0 : Nat) ≤ 2000 by decide
      value := show (0 : Nat) ≤ 2000 by decide
      s := show (0 : Nat) ≤ 2000 by decide
      ok := nice_vd0
      flt := fun h => by cases h
      can := fun h => by simp only [laxP] at h; omega
      prec := fun h => by simp only [laxP] at h; omega
      n0 := show (-9223372036854775808 : Int) ≤ 0 by decide
      n1 := show (0 : Int) ≤ 9223372036854775807 by decide
      m0 := show (-9223372036854775808 : Int) ≤ 0 by decide
      m1 := show (0 : Int) ≤ 9223372036854775807 by decide }
  · exact {
      op := by simp [precP]
      key := show (0 : Nat) ≤ 2000 by decide
      value := show (0 : Nat) ≤ 2000 by decide
      s := show (0 : Nat) ≤ 2000 by decide
      ok := nice_vd0
      flt := fun h => by cases h
      can := fun h => by simp only [precP] at h; omega
      prec := fun _ => ⟨q0, q3⟩
      n0 := show (-9223372036854775808 : Int) ≤ q by omega
      n1 := show q ≤ 9223372036854775807 by omega
      m0 := show (-9223372036854775808 : Int) ≤ 0 by decide
      m1 := show (0 : Int) ≤ 9223372036854775807 by decide }
theorem lines_sz {l : List LnD} (h : LinesOk l) {e : LnD} (he : e ∈ l) : lnSz e ≤ 2000 := Nat.le_trans (mem_le_sum lnSz l e he) h.sz
theorem lines_pt {l : List LnD} (h : LinesOk l) {e : LnD} (he : e ∈ l) : lnPt e ≤ 100 := Nat.le_trans (mem_le_sum lnPt l e he) h.pt
theorem sum_take_le {α : Type} (f : α → Nat) : ∀ (l : List α) (k : Nat), ((l.take k).map f).sum ≤ (l.map f).sum
  | [], k => by simp
  | x :: l, 0 => by simp
  | x :: l, k + 1 => by
    have := sum_take_le f l k
    simp only [List.take_succ_cons, List.map_cons, List.sum_cons]
    omega
theorem lnAll_le {l : List LnD} (h : LinesOk l) (k : Nat) : (lnAll (l.take k)).length ≤ 140 := by
  rw [lnAll_len _ (fun e he => h.good e (List.mem_of_mem_take he))]
  have h1 := sum_take_le lnPt l k
  have h2 := h.pt
  have h3 := h.len
  have h4 : (l.take k).length ≤ l.length := by rw [List.length_take]; omega
  omega
theorem nice_all {l : List LnD} (h : LinesOk l) (hok : ∀ e, e ∈ l → LnOk e) : ∀ p, p ∈ lnAll l → Nice p := by
  intro p hp
  obtain ⟨e, he, hp⟩ := List.mem_flatMap.1 hp
  exact nice_puts e (h.good e he) (hok e he) (lines_sz h he) p hp
theorem lines_at {w : World} {a : Option Addr} {l : List LnD} (h : l = [] ∨ ∃ g off, a = some ⟨g, off, none⟩ ∧ ∀ i e, l[i]? = some e → ∃ cs, LineIn w cs e ∧ ∀ j u, cs[j]? = some u → w.cell? ⟨g, off + i * 7 + j, none⟩ = some u) {k : Nat} {x : LnD} (hx : l[k]? = some x) {wr : World} (f : Fr [] w wr) :
    ∃ g off, a = some ⟨g, off, none⟩ ∧ ∃ cs, LineIn wr cs x ∧ ∀ j u, cs[j]? = some u → wr.cell? ⟨g, off + k * 7 + j, none⟩ = some u := by
  rcases h with h | ⟨g, off, h1, h2⟩
  · subst h; simp at hx
  · obtain ⟨cs, h3, h4⟩ := h2 k x hx
    exact ⟨g, off, h1, cs, h3.fr f, fun j u hu => f.cell (h4 j u hu) List.not_mem_nil⟩
/-- What Encode answers to nice calls whose last state is known. -/
theorem enc_known {l : List PutD} {st : St} (hl : ∀ p, p ∈ l → Nice p) (hr : runs fTx St0 l = some st) (hpos : 0 < l.length) {w w' : World} {e : Ending} (h : EncRes fTx l w e w') :
    ∃ g cap, e = .returned (.tuple #[.string ⟨st.buf.toArray⟩, .slice (some ⟨g, 0, none⟩) l.length cap, .bool true]) ∧ Fr [] w w' ∧ l.length ≤ cap ∧ w'.cell? ⟨g, (l.length - 1) * 3, none⟩ = some (.bool (st.err != 0)) ∧
      ∀ j st', j < l.length → runs fTx St0 (l.take (j + 1)) = some st' → w'.cell? ⟨g, j * 3, none⟩ = some (.bool (st'.err != 0)) ∧ w'.cell? ⟨g, j * 3 + 1, none⟩ = some (.bool (st'.err == 2)) ∧ w'.cell? ⟨g, j * 3 + 2, none⟩ = some (.int .i64 st'.buf.length) := by
  obtain ⟨hf, h⟩ := h
  have hs : sts fTx l l.length = some st := by rw [sts_all]; exact hr
  rw [hs] at h
  obtain ⟨vl, rfl, ho⟩ := h
  obtain ⟨g, cap, rfl, hc, _, hcell⟩ := ho.row hpos
  have hall : ∀ k, k ≤ l.length → ∃ st, sts fTx l k = some st := fun k hk => by
    obtain ⟨s, h1, _⟩ := nice_sts l hl k hk
    exact ⟨s, h1⟩
  have key : ∀ j st', j < l.length → runs fTx St0 (l.take (j + 1)) = some st' → w'.cell? ⟨g, j * 3, none⟩ = some (.bool (st'.err != 0)) ∧ w'.cell? ⟨g, j * 3 + 1, none⟩ = some (.bool (st'.err == 2)) ∧ w'.cell? ⟨g, j * 3 + 2, none⟩ = some (.int .i64 st'.buf.length) := fun j st' hj hr => by
    have := stoodL_at fTx l l.length j st' hj hall (by rw [sts_runs _ _ _ (by omega)]; exact hr)
    exact ⟨hcell _ _ this.1, hcell _ _ this.2.1, hcell _ _ this.2.2⟩
  refine ⟨g, cap, rfl, hf, hc, (key (l.length - 1) st (by omega) ?_).1, key⟩
  rw [show l.length - 1 + 1 = l.length by omega, List.take_length]
  exact hr

theorem alone_len (lax : Bool) (q : Int) (q0 : 0 ≤ q) (q3 : q ≤ 3) {l : List LnD} (h : LinesOk l) (hok : ∀ e, e ∈ l → LnOk e) {e : LnD} (he : e ∈ l) : (aloneSt lax (ticks q.toNat) e).buf.length ≤ 4100000 := by
  have hnice : ∀ p, p ∈ beginP lax q ++ lnPuts e → Nice p := fun p hp => by
    rcases List.mem_append.1 hp with hp | hp
    · exact nice_begin lax q q0 q3 p hp
    · exact nice_puts e (h.good e he) (hok e he) (lines_sz h he) p hp
  obtain ⟨st, h1, h2⟩ := nice_sts _ hnice _ (Nat.le_refl _)
  rw [sts_all, alone_sts lax q q0 q3 e (h.good e he)] at h1
  cases h1
  have h3 := lnPuts_len e (h.good e he)
  have h4 := lines_pt h he
  have h5 : (beginP lax q ++ lnPuts e).length = 2 + (lnPuts e).length := by rw [List.length_append]; rfl
  have := h2.2.1
  omega
theorem wantT_len (lax : Bool) (mul : Int) (C : Nat) : ∀ l : List LnD, (∀ e, e ∈ l → (aloneSt lax mul e).buf.length ≤ C) → (wantT lax mul l).length ≤ l.length * C
  | [], _ => by simp [wantT]
  | e :: l, h => by
    have h1 := wantT_len lax mul C l (fun x hx => h x (by simp [hx]))
    have h2 := h e (by simp)
    have : wantT lax mul (e :: l) = (aloneSt lax mul e).buf ++ wantT lax mul l := by simp [wantT]
    rw [this, List.length_append, List.length_cons, Nat.add_mul]
    omega

set_option maxRecDepth 100000 in
set_option maxHeartbeats 8000000 in
theorem each_main (hV : ValidSaid) {ea : Addr} {B0 : Nat} (l : List LnD) (v : Value) (lax : Bool) (q : Int) (w : World) (hG : Gl B0 ea w) (hok : ∀ e, e ∈ l → LnOk e) (hP : LinesIn w v l) (hf : fitLs l = true) (q0 : 0 ≤ q) (q3 : q ≤ 3) :
    Calls Tryz.prog 7 #[v, .bool lax, .int .i64 q] w fun e w' => e = .returned (.bool true) ∧ Fr [] w w' := by
  have hlen := fits_len hf
  have hz := zzFits4_any l v w (by omega) hok hP
  rw [hf] at hz
  have hl := fun w1 (h : Fr [] w w1) => lLines_any l v w1 hlen hf (hP.fr h)
  have HZ := Lib.hid hz
  have HL := Lib.hid hl
  have HOK := Lib.hid hok
  have HG := Lib.hid hG
  obtain ⟨a, c, rfl, hrow⟩ := hP
  have HROW := Lib.hid hrow
  obtain ⟨mul, hmul⟩ : ∃ m, m = ticks q.toNat := ⟨_, rfl⟩
  have HMUL := Lib.hid hmul
  obtain ⟨L, hL⟩ : ∃ L, L = l.length := ⟨_, rfl⟩
  rw [← hL] at hlen HZ HL ⊢
  have HLL := Lib.hid hL
  have hd1 : decide (q < 0) = false := decide_eq_false (by omega)
  have hd2 : decide (3 < q) = false := decide_eq_false (by omega)
  clear hz hok hf hl hrow hG hmul hL
  go_enter Tryz.func7, Tryz.ntmps7
  go_upto_region 3 with (go_at_call 20; refine HZ.out.mono ?_; rintro e w1 ⟨rfl, hf1⟩; have HF1 := Lib.hid hf1; clear hf1)
  go_upto_region 5 with (go_at_call 21; refine (HL.out _ HF1.out).mono ?_; rintro e w2 ⟨⟨b, rfl, hb⟩, hf2⟩; have HF2 := Lib.hid (HF1.out.trans hf2); have HB := Lib.hid hb; clear hf2 hb; cases b)
  · go_ret
    exact ⟨rfl, HF2.out⟩
  have HLO := Lib.hid (HB.out trivial)
  clear HB
  go_upto_region 6 with fail
  clear hd1 hd2
  obtain ⟨w3, hw3⟩ : ∃ x, x = w2.alloc (.cells #[.int .i64 7, .string ⟨#[]⟩, .string ⟨#[]⟩, .int .i64 0, .string ⟨#[]⟩, .int .i64 0, .int .u64 0, .float .f64 0, .bool false, .int .i64 0, .int .i64 0, .bool lax,
    .int .i64 6, .string ⟨#[]⟩, .string ⟨#[]⟩, .int .i64 0, .string ⟨#[]⟩, .int .i64 0, .int .u64 0, .float .f64 0, .bool false, .int .i64 q, .int .i64 0, .bool false] 38) := ⟨_, rfl⟩
  rw [← hw3]
  have hf3 : Fr [] w2 w3 := by rw [hw3]; exact (Fr.refl _ _).alloc _
  have hO3 : OwnC w3 38 12 (.slice (some ⟨w2.heap.size, 0, none⟩) 2 2) (beginP lax q).length (cellsOf (beginP lax q)) := by
    rw [begin_cells, hw3]
    exact ⟨rfl, by simp [Value.oneCell'], .inr ⟨_, 2, rfl, _, (0, 0), heap_alloc_new w2 _, fun j _ h => by omega, by simp, Nat.le_refl _, rfl⟩⟩
  have hsz3 : w3.heap.size = w2.heap.size + 1 := by rw [hw3]; simp
  have HF3 := Lib.hid (HF2.out.trans hf3)
  have HO3 := Lib.hid hO3
  have HSZ3 := Lib.hid hsz3
  clear hw3 hf3 hO3 hsz3
  go_upto_region 8 with (at_builtin; refine wpAppE w3 (o := ⟨some 41, _, _, _, _, _⟩) rfl (.tmp 39) (.tmp 40) rfl (.slice (some ⟨w2.heap.size, 0, none⟩) 2 2) (beginP lax q) rfl rfl HO3.out (by simp [beginP]) ?_; intro v5 w5 ho5 hf5 hb5; have HO5 : Hid (OutC w3 w5 v5 (beginP lax q ++ lnAll (l.take 0))) := Lib.hid (by rw [show beginP lax q ++ lnAll (l.take 0) = beginP lax q by simp [lnAll]]; exact ⟨ho5, hf5, hb5⟩); clear ho5 hf5 hb5)
  go_wp2_with fail
  go_loopw [8, 9, 10, 44] (fun vc vw vf i wr => ∃ k : Nat, k ≤ L ∧ i = .int .i64 k ∧ vw = .string ⟨(wantT lax mul (l.take k)).toArray⟩ ∧ vf = .bool (firstT' lax mul (l.take k)) ∧ Hid (OutC w3 wr vc (beginP lax q ++ lnAll (l.take k)))) (fun _ _ _ i _ => L - (intOf i).toNat)
  case atStart => exact ⟨0, Nat.zero_le _, rfl, rfl, rfl, HO5⟩
  case round =>
    obtain ⟨k, hk, rfl, rfl, rfl, HO⟩ := hrel
    by_cases hlt : k < L
    case neg =>
      have hlk : l.take k = l := List.take_of_length_le (by rw [← HLL.out]; omega)
      have hO : OutC w3 wr u8 (beginP lax q ++ lnAll l) := by have := HO.out; rw [hlk] at this; exact this
      obtain ⟨cst, hc1, hc2, hc3⟩ := all_sts lax q q0 q3 l HLO.out.good
      rw [← HMUL.out] at hc2 hc3
      have hnice : ∀ p, p ∈ beginP lax q ++ lnAll l → Nice p := fun p hp => by
        rcases List.mem_append.1 hp with hp | hp
        · exact nice_begin lax q q0 q3 p hp
        · exact nice_all HLO.out HOK.out p hp
      have hcap : (lnAll l).length ≤ 140 := by have := lnAll_le HLO.out k; rw [hlk] at this; exact this
      obtain ⟨M, hM⟩ : ∃ M, M = (beginP lax q ++ lnAll l).length := ⟨_, rfl⟩
      have hM2 : M = (lnAll l).length + 2 := by rw [hM, List.length_append]; show 2 + _ = _; omega
      obtain ⟨M1, hM1⟩ : ∃ M1, M1 = M - 1 := ⟨_, rfl⟩
      have hw : wrap64 ((M : Int) - 1) = (M1 : Int) := by unfold wrap64; omega
      have hlt1 : (M1 : Int) < (M : Int) := by omega
      have hE := nice_encode hV (beginP lax q ++ lnAll l) hnice (by omega) u8 wr (HG.out.fr (HF3.out.trans hO.fr) (by simp)) hO.own
      have hE2 : Calls Tryz.prog 23 #[u8] wr fun e w' => ∃ g cap, e = .returned (.tuple #[.string ⟨(wantT lax mul l).toArray⟩, .slice (some ⟨g, 0, none⟩) M cap, .bool true]) ∧ Fr [] wr w' ∧ w'.cell? ⟨g, M1 * 3, none⟩ = some (.bool (firstT' lax mul l)) := by
        refine hE.mono ?_
        intro e w' h
        obtain ⟨g, cap, h1, h2, _, h3, _⟩ := enc_known hnice hc1 (by omega) h
        rw [← hM, hc2] at h1
        rw [← hM, ← hM1, hc3] at h3
        exact ⟨g, cap, h1, h2, h3⟩
      obtain ⟨a8, c8, hv8⟩ := hO.own.shape
      rw [← hM] at hv8
      subst hv8
      have HE2 := Lib.hid hE2
      have HFW := Lib.hid (HF3.out.trans hO.fr)
      rw [hlk]
      clear hlk hO hc1 hc2 hc3 hnice hE hE2 hM hM2 hM1 hcap
      obtain ⟨F, hF⟩ : ∃ F, F = firstT' lax mul l := ⟨_, rfl⟩
      rw [← hF] at HE2 ⊢
      obtain ⟨W, hW⟩ : ∃ W : ByteArray, W = ⟨(wantT lax mul l).toArray⟩ := ⟨_, rfl⟩
      rw [← hW] at HE2 ⊢
      clear hF hW
      go_upto_region 19 with (go_at_call 23; refine HE2.out.mono ?_; rintro e w9 ⟨g9, cap9, rfl, hf9, d9⟩; have HF9 := Lib.hid (HFW.out.trans hf9); clear hf9)
      cases F
      all_goals
        go_wp2_with fail
        go_ret
        exact ⟨rfl, HF9.out⟩
    have hlk : k < l.length := by rw [← HLL.out]; exact hlt
    obtain ⟨x, hx⟩ : ∃ x, l[k]? = some x := ⟨l[k], List.getElem?_eq_getElem hlk⟩
    have hmem := List.mem_of_getElem? hx
    obtain ⟨g, off, rfl, cs, hline, hcell⟩ := lines_at HROW.out hx (HF3.out.trans HO.out.fr)
    have hpt := lines_pt HLO.out hmem
    have hgd := HLO.out.good x hmem
    have hcal : ∀ w', Fr [] wr w' → Calls Tryz.prog 22 #[.agg cs] w' fun ε w2 => ∃ v, ε = .returned v ∧ OutC w' w2 v (lnPuts x) := fun w' hf => lCalls_any x cs w' (by unfold lnPt at hpt; omega) (by unfold lnPt at hpt; omega) hgd.vals (hline.fr hf)
    have HX := Lib.hid hx
    have HCAL := Lib.hid hcal
    have HGD := Lib.hid hgd
    have HMEM := Lib.hid hmem
    have HPT := Lib.hid hpt
    obtain ⟨tv, fv, vv, rfl, ⟨ta, tc, rfl, _⟩, ⟨fa, fc, rfl, _⟩, ⟨va, vc, rfl, _⟩⟩ := hline
    have c0 : wr.cell? ⟨g, off + k * 7, none⟩ = some (.string x.name) := hcell 0 _ rfl
    have c1 : wr.cell? ⟨g, off + k * 7 + 1, none⟩ = some (.slice ta x.tags.length tc) := hcell 1 _ rfl
    have c2 : wr.cell? ⟨g, off + k * 7 + 2, none⟩ = some (.slice fa x.fields.length fc) := hcell 2 _ rfl
    have c3 : wr.cell? ⟨g, off + k * 7 + 3, none⟩ = some (.slice va x.values.length vc) := hcell 3 _ rfl
    have c4 : wr.cell? ⟨g, off + k * 7 + 4, none⟩ = some (.int .i64 x.n) := hcell 4 _ rfl
    have c5 : wr.cell? ⟨g, off + k * 7 + 5, none⟩ = some (.bool x.non) := hcell 5 _ rfl
    have c6 : wr.cell? ⟨g, off + k * 7 + 6, none⟩ = some (.bool x.raw) := hcell 6 _ rfl
    clear hcell hx hmem hpt hgd hcal hlk
    obtain ⟨N, hN⟩ : ∃ N, N = (lnPuts x).length := ⟨_, rfl⟩
    have hNle : N ≤ 200 := by have := lnPuts_len x HGD.out; have := HPT.out; omega
    have hlen2 : (beginP lax q ++ lnPuts x).length = N + 2 := by rw [List.length_append, hN]; show 2 + _ = _; omega
    have hlnk : (beginP lax q ++ lnAll (l.take k)).length ≤ 142 := by rw [List.length_append]; have := lnAll_le HLO.out k; show 2 + _ ≤ _; omega
    have HN := Lib.hid hN
    have HNLE := Lib.hid hNle
    have HLEN2 := Lib.hid hlen2
    have HLNK := Lib.hid hlnk
    clear hN hNle hlen2 hlnk
    go_upto_region 12 with (go_at_call 22; refine (HCAL.out _ ((Fr.refl _ _).alloc _)).mono ?_; rintro ε w7 ⟨v7, rfl, ho7⟩; obtain ⟨a7, c7, hv7⟩ := ho7.own.shape; rw [← HN.out] at hv7; subst hv7; have HOc := Lib.hid (HO.out.fr0 (((Fr.refl _ _).alloc _).trans ho7.fr)); have HB7 : Hid (∀ g, (Value.slice a7 N c7).ownBlock = some g → wr.heap.size < g) := Lib.hid (fun g hg => by have := ho7.new g hg; simp at this; omega); have HO7 := Lib.hid ho7.own; clear ho7)
    go_upto_region 13 with (at_builtin; refine wpAppP w7 (o := ⟨some 52, _, _, _, _, _⟩) rfl (.tmp 50) (.tmp 51) rfl u8 (.slice a7 N c7) (beginP lax q ++ lnAll (l.take k)) (lnPuts x) rfl rfl HOc.out.own HO7.out (by have := HLNK.out; have := HN.out; have := HNLE.out; omega) ?_; intro v8 w8 ho8 hf8 hb8; have HO8 := Lib.hid (HOc.out.app ho8 hf8 hb8); have HO7b := Lib.hid (HO7.out.fr hf8 (fun g hg hm => by have h1 := HB7.out g hg; have h2 := HO.out.own.lt g (by simpa using hm); omega)); clear ho8 hf8 hb8)
    have HOb8 := Lib.hid (HO3.out.fr HO8.out.fr (by simp))
    have hnice : ∀ p, p ∈ beginP lax q ++ lnPuts x → Nice p := fun p hp => by
      rcases List.mem_append.1 hp with hp | hp
      · exact nice_begin lax q q0 q3 p hp
      · exact nice_puts x HGD.out (HOK.out x HMEM.out) (lines_sz HLO.out HMEM.out) p hp
    obtain ⟨M, hM⟩ : ∃ M, M = (beginP lax q ++ lnPuts x).length := ⟨_, rfl⟩
    have hM2 : M = N + 2 := by rw [hM]; exact HLEN2.out
    obtain ⟨M1, hM1⟩ : ∃ M1, M1 = M - 1 := ⟨_, rfl⟩
    have hw : wrap64 ((M : Int) - 1) = (M1 : Int) := by have := HNLE.out; unfold wrap64; omega
    have hw2 : wrap64 ((N : Int) + 2) = (M : Int) := by have := HNLE.out; unfold wrap64; omega
    have hlt1 : (M1 : Int) < (M : Int) := by omega
    have hsts := alone_sts lax q q0 q3 x HGD.out
    rw [← HMUL.out] at hsts
    obtain ⟨S, hS⟩ : ∃ S, S = (aloneSt lax mul x).buf := ⟨_, rfl⟩
    obtain ⟨E, hE⟩ : ∃ E, E = ((aloneSt lax mul x).err != 0) := ⟨_, rfl⟩
    have hcE : ∀ (vv : Value) (ww : World), Gl B0 ea ww → OwnC ww 38 12 vv (beginP lax q ++ lnPuts x).length (cellsOf (beginP lax q ++ lnPuts x)) → Calls Tryz.prog 23 #[vv] ww fun e w' => ∃ g cap, e = .returned (.tuple #[.string ⟨S.toArray⟩, .slice (some ⟨g, 0, none⟩) M cap, .bool true]) ∧ Fr [] ww w' ∧ w'.cell? ⟨g, M1 * 3, none⟩ = some (.bool E) := by
      intro vv ww hg ho
      refine (nice_encode hV (beginP lax q ++ lnPuts x) hnice (by have := HNLE.out; omega) vv ww hg ho).mono ?_
      intro e w' h
      obtain ⟨g, cap, h1, h2, _, h3, _⟩ := enc_known hnice hsts (by omega) h
      rw [← hM, ← hS] at h1
      rw [← hM, ← hM1, ← hE] at h3
      exact ⟨g, cap, h1, h2, h3⟩
    have HCE := Lib.hid hcE
    have HG8 := Lib.hid (HG.out.fr (HF3.out.trans HO8.out.fr) (by simp))
    have HWA := Lib.hid (wantT_snoc lax mul l k x HX.out)
    have HFI := Lib.hid (firstT_snoc lax mul l k x HX.out)
    rw [← hS] at HWA
    rw [← hE] at HFI
    have HSE := Lib.hid (And.intro hS hE)
    clear hnice hM hM2 hM1 hsts hcE hS hE c0 c1 c2 c3 c4 c5 c6
    go_upto_region 14 with (first
      | (at_builtin; refine wpAppE w8 (o := ⟨some 56, _, _, _, _, _⟩) rfl (.tmp 54) (.tmp 55) rfl (.slice (some ⟨w2.heap.size, 0, none⟩) 2 2) (beginP lax q) rfl rfl HOb8.out (by simp [beginP]) ?_; intro v9 w9 ho9 hf9 hb9; have HO9 := Lib.hid ho9; have HF9 := Lib.hid hf9; have HB9 := Lib.hid hb9; have HO7d := Lib.hid (HO7b.out.fr hf9 (by simp)); clear ho9 hf9 hb9)
      | (at_builtin; refine wpAppP w9 (o := ⟨some 58, _, _, _, _, _⟩) rfl (.tmp 56) (.tmp 57) rfl v9 (.slice a7 N c7) (beginP lax q) (lnPuts x) rfl rfl HO9.out HO7d.out (by have := HN.out; have := HNLE.out; show 2 + _ ≤ _; omega) ?_; intro v10 w10 ho10 hf10 _; have HO10 := Lib.hid ho10; have HF10 := Lib.hid (HF9.out.step hf10 (fun t ht => .inr (HB9.out t (by simpa using ht)))); clear ho10 hf10)
      | (go_at_call 23; refine (HCE.out v10 w10 (HG8.out.fr HF10.out (by simp)) HO10.out).mono ?_; rintro ε w11 ⟨g11, cap11, rfl, hf11, d11⟩; have HF11 := Lib.hid (HF10.out.trans hf11); clear hf11))
    go_upto_region 16 with fail
    obtain ⟨F, hF⟩ : ∃ F, F = firstT' lax mul (l.take k) := ⟨_, rfl⟩
    rw [← hF] at HFI ⊢
    have hadd : ∀ w, (Op.stringOp .add ⟨(wantT lax mul (l.take k)).toArray⟩ ⟨S.toArray⟩).run Tryz.prog w = .ok (.string (⟨(wantT lax mul (l.take k)).toArray⟩ ++ ⟨S.toArray⟩)) w := fun w => run_string_add_sum w _ _ (by
      have h1 := wantT_len lax mul 4100000 (l.take k) (fun e he => by rw [HMUL.out]; exact alone_len lax q q0 q3 HLO.out HOK.out (List.mem_of_mem_take he))
      have h2 : S.length ≤ 4100000 := by rw [HSE.out.1, HMUL.out]; exact alone_len lax q q0 q3 HLO.out HOK.out HMEM.out
      have h3 := HLO.out.len
      have h4 : (l.take k).length ≤ l.length := by rw [List.length_take]; omega
      have e1 : (⟨(wantT lax mul (l.take k)).toArray⟩ : ByteArray).size = (wantT lax mul (l.take k)).length := by show (wantT lax mul (l.take k)).toArray.size = _; simp
      have e2 : (⟨S.toArray⟩ : ByteArray).size = S.length := by show S.toArray.size = _; simp
      rw [e1, e2]
      omega)
    obtain ⟨W, hW⟩ : ∃ W : ByteArray, W = ⟨(wantT lax mul (l.take k)).toArray⟩ := ⟨_, rfl⟩
    rw [← hW] at hadd ⊢
    have HW := Lib.hid hW
    clear hF hW
    cases F
    all_goals
      go_quiet (fail)
    all_goals
      go_wp2_with fail
      go_roundw
      case rel =>
        refine ⟨k + 1, by omega, by go_num, ?_, ?_, Lib.hid ?_⟩
        · rw [HW.out, HWA.out, ba_app]
        · rw [HFI.out]; rfl
        · rw [lnAll_snoc l k x HX.out, ← List.append_assoc]; exact HO8.out.fr0 (HF11.out.drewN _)
      case measure => simp [intOf]; omega
theorem each_walk (hV : ValidSaid) {ea : Addr} {B0 : Nat} (l : List LnD) (v : Value) (lax : Bool) (q : Int) (w : World) (hG : Gl B0 ea w) (hlen : l.length ≤ 9223372036854775807) (hok : ∀ e, e ∈ l → LnOk e) (hP : LinesIn w v l) :
    Calls Tryz.prog 7 #[v, .bool lax, .int .i64 q] w fun e w' => e = .returned (.bool true) ∧ Fr [] w w' := by
  cases hf : fitLs l with
  | false => exact each_early l v lax q w hlen hok hP hf
  | true =>
    by_cases hq : q < 0 ∨ 3 < q
    · exact each_early2 l v lax q w hok hP hf hq
    · exact each_main hV l v lax q w hG hok hP hf (by omega) (by omega)
end Go.Proofs.YtaaogjhaokaggaaGreatDoor
