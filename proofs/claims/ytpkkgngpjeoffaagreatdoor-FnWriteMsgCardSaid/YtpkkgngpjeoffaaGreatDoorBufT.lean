/- PROVED HERE: a part of round r2's proofs (text BufT): lemmas and walks that later texts use. CONDITIONS: those written ahead of each theorem. -/
import Derived.Test.YtpkkgngpjeoffaaGreatDoorLawA
import Derived.Test.YtpkkgngpjeoffaaGreatDoorShelf
import Derived.BigQuiet
import Derived.Deep.QuietTactic
import Derived.Deep.RegionWith
import Derived.Deep.LoopGhost
namespace Go.Proofs.YtpkkgngpjeoffaaGreatDoor
open Go.RowKit

theorem Fr.drewN {S : List Nat} {a w : World} (h : Fr S a w) (n : Nat) : Fr S a (w.drewN n) := ⟨h.os, h.tape, h.output, h.size, h.block⟩
/-- copy of an owned row of bytes into a row at a place. -/
theorem wpCopyAt (w : World) {ops : Array Oper} {rest : List Oper} {o : Oper} {a : Act} {Q : Exit → Act → World → Prop}
    (hg : o.guard = none) (d s : Operand) (hop : o.op = .call { callee := .builtin .copy, args := #[d, s], argTypes := #[42, 42] })
    (g off cap : Nat) (v : Value) (m : List UInt8) (hd : a.eval d = .slice (some ⟨g, off, none⟩) m.length cap) (hs : a.eval s = v) (hown : Own w 5 v m) (hm : m ≠ []) (cur : Array Value) (hgc : w.heap[g]? = some (.cells cur 5 (0, 0))) (hfit : off + m.length ≤ cur.size)
    (hK : ∀ w' cur', w'.heap[g]? = some (.cells cur' 5 (0, 0)) → cur'.size = cur.size → cur'.toList.take (off + m.length) = cur.toList.take off ++ bvs m → Fr [g] w w' → wpList Tryz.prog ops Q rest (a.put o.dst (goInt m.length)) w') :
    wpList Tryz.prog ops Q (o :: rest) a w := by
  obtain ⟨i5, hi, hz0, hz1, hz2⟩ := info_parts Tryz.info5
  rcases hown with ⟨rfl, rfl⟩ | ⟨g', c', rfl, hr⟩
  · exact absurd rfl hm
  · refine wpList_copy_own hg d s 42 42 hop 5 u42 (by rw [hi]; exact congrArg some hz1) g off m.length cap ⟨g', 0, none⟩ m.length c' hd hs cur 5 hgc (bvs m) (by simp [bvs]) (fun j u hu => ?_) (by simpa [bvs] using hfit) (bvs_one m) ?_
    · have hj : j < m.length := by
        have := (List.getElem?_eq_some_iff.1 hu).1
        simpa [bvs] using this
      have hadd : (⟨g', 0, none⟩ : Addr).add j = ⟨g', j, none⟩ := by unfold Addr.add; split <;> simp_all
      rw [hadd, hr.cell hj, ← hu, bvs_at hj]
    · rw [bvs_length]
      have hh := setRow_heap w g cur (cur.toList.take off ++ (bvs m ++ cur.toList.drop (off + m.length))).toArray 5 (0, 0) hgc
      have hfr : Fr [g] w (w.setRow g (cur.toList.take off ++ (bvs m ++ cur.toList.drop (off + m.length))).toArray) := ⟨rfl, rfl, rfl, by simp, fun k _ hs => setRow_other w g k _ (by simpa using hs)⟩
      refine hK _ _ hh ?_ ?_ hfr
      · simp [bvs]; omega
      · show (cur.toList.take off ++ (bvs m ++ cur.toList.drop (off + m.length))).take (off + m.length) = _
        have hl : (cur.toList.take off ++ bvs m).length = off + m.length := by rw [List.length_append, bvs_length, List.length_take]; simp; omega
        rw [← List.append_assoc, ← hl]
        exact List.take_left

/-- A bytes.Buffer that has only been written: block b; its bytes l behind v. -/
def BufW (w : World) (b : Nat) (v : Value) (l : List UInt8) : Prop :=
  (∃ lr, w.heap[b]? = some (.cells #[v, .int .i64 0, .int .i8 lr] 46 (0, 0))) ∧
  ((v = .slice none 0 0 ∧ l = []) ∨ ∃ g cap cur, v = .slice (some ⟨g, 0, none⟩) l.length cap ∧ w.heap[g]? = some (.cells cur 5 (0, 0)) ∧ cur.size = cap ∧ l.length ≤ cap ∧ cap ≤ maxLen ∧ cur.toList.take l.length = bvs l ∧ g ≠ b)
theorem BufW.fr {S : List Nat} {w w' : World} {b : Nat} {v : Value} {l : List UInt8} (h : BufW w b v l) (f : Fr S w w') (hb : b ∉ S) (hv : ∀ g, v.ownBlock = some g → g ∉ S) : BufW w' b v l := by
  obtain ⟨⟨lr, h1⟩, h2⟩ := h
  refine ⟨⟨lr, f.blk h1 hb⟩, ?_⟩
  rcases h2 with h | ⟨g, cap, cur, rfl, hg, hr⟩
  · exact .inl h
  · exact .inr ⟨g, cap, cur, rfl, f.blk hg (hv g rfl), hr⟩
/-- What grow leaves: n more bytes behind l, of whatever. -/
def GrowQ (w : World) (b : Nat) (l : List UInt8) (n : Nat) (w' : World) : Prop :=
  Fr [b] w w' ∧ ∃ g cap cur lr, w'.heap[b]? = some (.cells #[.slice (some ⟨g, 0, none⟩) (l.length + n) cap, .int .i64 0, .int .i8 lr] 46 (0, 0)) ∧ w.heap.size ≤ g ∧ w'.heap[g]? = some (.cells cur 5 (0, 0)) ∧ cur.size = cap ∧ l.length + n ≤ cap ∧ cap ≤ maxLen ∧ cur.toList.take l.length = bvs l

theorem grow_end {w w2 : World} {b g cap n : Nat} {l : List UInt8} {cells : Array Value} {vv : Value} {lr : Int} (hf : Fr [] w w2) (hb2 : w2.heap[b]? = some (.cells #[vv, .int .i64 0, .int .i8 lr] 46 (0, 0))) (hN : w2.heap[g]? = some (.cells cells 5 (0, 0))) (hg : w.heap.size ≤ g) (hb : b < w.heap.size) (hcs : cells.size = cap) (hle : l.length + n ≤ cap) (hm : cap ≤ maxLen) (ht : cells.toList.take l.length = bvs l) (x : Value) :
    GrowQ w b l n (((w2.setCell ⟨b, 0, none⟩ x).setCell ⟨b, 1, none⟩ (.int .i64 0)).setCell ⟨b, 0, none⟩ (.slice (some ⟨g, 0, none⟩) (l.length + n) cap)) := by
  have h1 := heap_setCell_same w2 b 0 _ 46 x hb2
  have h2 := heap_setCell_same _ b 1 _ 46 (.int .i64 0) h1
  have h3 := heap_setCell_same _ b 0 _ 46 (.slice (some ⟨g, 0, none⟩) (l.length + n) cap) h2
  refine ⟨(((hf.sub (by simp)).setCell (.inl (by simp)) _).setCell (.inl (by simp)) _).setCell (.inl (by simp)) _, g, cap, cells, lr, ?_, hg, ?_, hcs, hle, hm, ht⟩
  · simpa using h3
  · exact ((((Fr.refl [b] w2).setCell (.inl (by simp)) _).setCell (.inl (by simp)) _).setCell (.inl (by simp)) _).blk hN (by simp; omega)
set_option maxRecDepth 100000 in
theorem len_any (b : Nat) (lr : Int) (a : Option Addr) (n c : Nat) (w : World) (hb : w.heap[b]? = some (.cells #[.slice a n c, .int .i64 0, .int .i8 lr] 46 (0, 0))) (hn : n ≤ 1000000000) :
    Calls Tryz.prog 201 #[.pointer (some ⟨b, 0, none⟩)] w fun e w' => e = .returned (.int .i64 n) ∧ ∃ q, w' = w.drewN q := by
  have c0 := cell_of_row w b 0 _ 46 _ hb
  have c1 := cell_of_row w b 1 _ 46 _ hb
  clear hb
  go_enter Tryz.func201, Tryz.ntmps201
  go_wp2_with fail
  go_quiet (fail)
  go_wp2_with fail
  go_ret
  exact ⟨rfl, _, rfl⟩

set_option maxRecDepth 100000 in
set_option maxHeartbeats 1000000 in
theorem grow_small (b : Nat) (lr : Int) (n : Nat) (w : World) (hb : w.heap[b]? = some (.cells #[.slice none 0 0, .int .i64 0, .int .i8 lr] 46 (0, 0))) (h1 : 1 ≤ n) (h64 : n ≤ 64) :
    Calls Tryz.prog 208 #[.pointer (some ⟨b, 0, none⟩), .int .i64 n] w fun e w' => e = .returned (.int .i64 0) ∧ GrowQ w b [] n w' := by
  have HL := Lib.hid (len_any b lr none 0 0 w hb (by omega))
  have c0 := cell_of_row w b 0 _ 46 _ hb
  have c1 := cell_of_row w b 1 _ 46 _ hb
  have f0 := frozen_of_row w b 0 _ 46 hb
  have HT := Lib.hid (fun (W : World) (c : W.cell? ⟨b, 0, none⟩ = some (.slice none 0 0)) => Tryz.Buffer_tryGrow_none b none 0 0 n W c (Nat.le_refl _) (by unfold maxLen; omega) (by omega))
  have HB := Lib.hid hb
  have hnil : ∀ W, (binOp .eql 42 (.slice none 0 0) (.slice none 0 0)).run Tryz.prog W = .ok (.bool true) W := fun _ => rfl
  have i1 : (1 : Int) ≤ (n : Int) := by omega
  have i64 : (n : Int) ≤ 64 := by omega
  clear hb
  go_enter Tryz.func208, Tryz.ntmps208
  go_wp2_with (first
    | (go_at_call 201; refine HL.out.mono ?_; rintro e w1 ⟨rfl, q, rfl⟩)
    | (go_at_call 209; refine (HT.out _ (by simpa using c0)).mono ?_; rintro e w2 ⟨rfl, rfl⟩)
    | (at_make; refine wpMake _ rfl (.tmp 40) (.const (.int .i64 64)) rfl _ _ n 64 rfl rfl rfl rfl h64 (by decide) ?_; intro w3 hr3 hf3; have HR3 := Lib.hid hr3; have HF3 := Lib.hid hf3; have HB3 := Lib.hid (hf3.blk (show (w.drewN q).heap[b]? = _ from HB.out) List.not_mem_nil); have g0 := cell_of_row w3 b 0 _ 46 _ HB3.out; have g1 := frozen_of_row w3 b 0 _ 46 HB3.out; clear hr3 hf3))
  go_ret
  have hlt : b < w.heap.size := (Array.getElem?_eq_some_iff.1 HB.out).1
  refine ⟨rfl, ((((Fr.refl [] w).drewN q).trans HF3.out).sub (by simp)).setCell (.inl (by simp)) _, w.heap.size, 64, zbytes 64, lr, ?_, Nat.le_refl _, ?_, zbytes_size 64, by simpa using h64, by decide, by simp [bvs]⟩
  · have := heap_setCell_same w3 b 0 #[.slice none 0 0, .int .i64 0, .int .i8 lr] 46 (.slice (some ⟨w.heap.size, 0, none⟩) n 64) HB3.out
    simpa using this
  · exact ((Fr.refl [b] w3).setCell (.inl (by simp)) _).blk HR3.out (by simp; omega)
set_option maxRecDepth 100000 in
set_option maxHeartbeats 2000000 in
theorem grow_big (b : Nat) (lr : Int) (n : Nat) (w : World) (hb : w.heap[b]? = some (.cells #[.slice none 0 0, .int .i64 0, .int .i8 lr] 46 (0, 0))) (h64 : 64 < n) (hn : n ≤ 1000000000) :
    Calls Tryz.prog 208 #[.pointer (some ⟨b, 0, none⟩), .int .i64 n] w fun e w' => e = .returned (.int .i64 0) ∧ GrowQ w b [] n w' := by
  have HL := Lib.hid (len_any b lr none 0 0 w hb (by omega))
  have c0 := cell_of_row w b 0 _ 46 _ hb
  have c1 := cell_of_row w b 1 _ 46 _ hb
  have f0 := frozen_of_row w b 0 _ 46 hb
  have HT := Lib.hid (fun (W : World) (c : W.cell? ⟨b, 0, none⟩ = some (.slice none 0 0)) => Tryz.Buffer_tryGrow_none b none 0 0 n W c (Nat.le_refl _) (by unfold maxLen; omega) (by omega))
  have HS := Lib.hid (fun (W : World) => Tryz.bytes_growSlice_nil n W (by omega) (by omega))
  have HB := Lib.hid hb
  have hnil : ∀ W, (binOp .eql 42 (.slice none 0 0) (.slice none 0 0)).run Tryz.prog W = .ok (.bool true) W := fun _ => rfl
  have i1 : (64 : Int) < (n : Int) := by omega
  have i64 : (n : Int) ≤ 1000000000 := by omega
  clear hb
  go_enter Tryz.func208, Tryz.ntmps208
  go_upto_region 15 with (first
    | (go_at_call 201; refine HL.out.mono ?_; rintro e w1 ⟨rfl, q, rfl⟩)
    | (go_at_call 209; refine (HT.out _ (by simpa using c0)).mono ?_; rintro e w2 ⟨rfl, rfl⟩))
  have hlt : b < w.heap.size := (Array.getElem?_eq_some_iff.1 HB.out).1
  have hwn : IntKind.i64.wrap (n : Int) = n := by rw [IntKind.wrap_i64]; omega
  have mixed : Tryz.prog.follows .mixedOrders = true := by kernel_rfl
  obtain ⟨W0, hW0⟩ : ∃ W0, W0 = w.drewN q := ⟨_, rfl⟩
  rw [← hW0]
  have hF0 : Fr [] w W0 := by rw [hW0]; exact (Fr.refl [] w).drewN q
  have hz0 : W0.heap.size = w.heap.size := by rw [hW0]; rfl
  have hB0 : W0.heap[b]? = some (.cells #[.slice none 0 0, .int .i64 0, .int .i8 lr] 46 (0, 0)) := by rw [hW0]; exact HB.out
  have k0 := cell_of_row W0 b 0 _ 46 _ hB0
  have k1 := cell_of_row W0 b 1 _ 46 _ hB0
  have HF0 := Lib.hid hF0
  have HB0 := Lib.hid hB0
  have HZ0 := Lib.hid hz0
  clear hW0 hF0 hB0 hz0 c0 c1 f0
  go_region_with_o (
      go_at_call 210
      refine (HS.out _).mono ?_
      rintro e w2 ⟨cap2, cells, rfl, hN, hcsz, hcap2, hcm2, hbel⟩
      have hf2 : Fr [] W0.drew w2 := Fr.of_below hbel
      have hbk2 : w2.heap[b]? = some (.cells #[.slice none 0 0, .int .i64 0, .int .i8 lr] 46 (0, 0)) := hf2.blk (show W0.drew.heap[b]? = _ from HB0.out) List.not_mem_nil
      have d0 := cell_of_row w2 b 0 _ 46 _ hbk2
      have d1 := cell_of_row w2 b 1 _ 46 _ hbk2
      have e0 := frozen_of_row w2 b 0 _ 46 hbk2
      have e1 := frozen_of_row w2 b 1 _ 46 hbk2
      have HN := Lib.hid hN
      have HF2 := Lib.hid (HF0.out.drew.trans hf2)
      have HB2 := Lib.hid hbk2
      have HC := Lib.hid hcsz
      clear hN hbel hf2 hbk2 hcsz)
  all_goals
    go_wp2_with fail
    go_ret
    exact ⟨rfl, by simpa using grow_end (l := []) HF2.out HB2.out HN.out (show w.heap.size ≤ W0.heap.size by rw [HZ0.out]; exact Nat.le_refl _) hlt HC.out (by simpa using hcap2) hcm2 (by simp [bvs]) (.slice (some ⟨W0.heap.size, 0, none⟩) 0 cap2)⟩
set_option maxRecDepth 100000 in
set_option maxHeartbeats 4000000 in
theorem grow_row (b : Nat) (lr : Int) (n g cap : Nat) (l : List UInt8) (cur : Array Value) (w : World) (hb : w.heap[b]? = some (.cells #[.slice (some ⟨g, 0, none⟩) l.length cap, .int .i64 0, .int .i8 lr] 46 (0, 0)))
    (hg : w.heap[g]? = some (.cells cur 5 (0, 0))) (hcs : cur.size = cap) (hlc : l.length ≤ cap) (hcm : cap ≤ maxLen) (ht : cur.toList.take l.length = bvs l) (_hgb : g ≠ b) (h1 : 1 ≤ n) (hno : cap - l.length < n) (hlim : l.length + n ≤ 1000000000) :
    Calls Tryz.prog 208 #[.pointer (some ⟨b, 0, none⟩), .int .i64 n] w fun e w' => e = .returned (.int .i64 l.length) ∧ GrowQ w b l n w' := by
  obtain ⟨L, hL⟩ : ∃ L, L = l.length := ⟨_, rfl⟩
  have HLL := Lib.hid hL
  have HGE := Lib.hid (fun (w w2 : World) (g' cap2 : Nat) (cells : Array Value) (vv x : Value) (lr : Int) (hf : Fr [] w w2) (hb2 : w2.heap[b]? = some (.cells #[vv, .int .i64 0, .int .i8 lr] 46 (0, 0))) (hN : w2.heap[g']? = some (.cells cells 5 (0, 0))) (hg' : w.heap.size ≤ g') (hlt : b < w.heap.size) (hcs : cells.size = cap2) (hle : l.length + n ≤ cap2) (hm : cap2 ≤ maxLen) (htk : cells.toList.take l.length = bvs l) => grow_end (l := l) (n := n) hf hb2 hN hg' hlt hcs hle hm htk x)
  have HTK := Lib.hid ht
  have HS0 := Lib.hid (fun (W : World) (hW : W.heap[g]? = some (.cells cur 5 (0, 0))) => Tryz.bytes_growSlice_row g l.length cap n cur W hW hcs hlc h1 (by omega) (by omega) (by rw [ht]; exact bvs_one l))
  rw [← hL] at HS0 hb hlc hno hlim ⊢
  clear hL
  have HL := Lib.hid (len_any b lr (some ⟨g, 0, none⟩) L cap w hb (by omega))
  have c0 := cell_of_row w b 0 _ 46 _ hb
  have c1 := cell_of_row w b 1 _ 46 _ hb
  have HT := Lib.hid (fun (W : World) (c : W.cell? ⟨b, 0, none⟩ = some (.slice (some ⟨g, 0, none⟩) L cap)) => Tryz.Buffer_tryGrow_none b (some ⟨g, 0, none⟩) L cap n W c hlc hcm hno)
  have HB := Lib.hid hb
  have HG := Lib.hid hg
  have hnil : ∀ W, (binOp .eql 42 (.slice (some ⟨g, 0, none⟩) L cap) (.slice none 0 0)).run Tryz.prog W = .ok (.bool false) W := fun W => Lib.run_eql_slice_some_nil W _ _ _ u42
  have i1 : ¬ ((n : Int) ≤ (cap : Int) / 2 - (L : Int)) := by omega
  have i2 : ¬ ((9223372036854775807 : Int) - (cap : Int) - (n : Int) < (cap : Int)) := by omega
  have i3 : (L : Int) + (n : Int) ≤ 1000000000 := by omega
  have i4 : (cap : Int) ≤ 1000000000 := by omega
  have mixed : Tryz.prog.follows .mixedOrders = true := by kernel_rfl
  have hlt : b < w.heap.size := (Array.getElem?_eq_some_iff.1 HB.out).1
  have hwn : IntKind.i64.wrap (n : Int) = n := by rw [IntKind.wrap_i64]; omega
  clear hb hg ht hcs
  cases hz : ((L : Int) == 0)
  all_goals
    go_enter Tryz.func208, Tryz.ntmps208
    go_upto_region 15 with (first
      | (go_at_call 201; refine HL.out.mono ?_; rintro e w1 ⟨rfl, q, rfl⟩)
      | (go_at_call 209; refine (HT.out _ (by simpa using c0)).mono ?_; rintro e w2 ⟨rfl, rfl⟩))
    obtain ⟨W0, hW0⟩ : ∃ W0, W0 = w.drewN q := ⟨_, rfl⟩
    rw [← hW0]
    have hF0 : Fr [] w W0 := by rw [hW0]; exact (Fr.refl [] w).drewN q
    have hz0 : W0.heap.size = w.heap.size := by rw [hW0]; rfl
    have hB0 : W0.heap[b]? = some (.cells #[.slice (some ⟨g, 0, none⟩) L cap, .int .i64 0, .int .i8 lr] 46 (0, 0)) := by rw [hW0]; exact HB.out
    have hG0 : W0.heap[g]? = some (.cells cur 5 (0, 0)) := by rw [hW0]; exact HG.out
    have k0 := cell_of_row W0 b 0 _ 46 _ hB0
    have k1 := cell_of_row W0 b 1 _ 46 _ hB0
    have HF0 := Lib.hid hF0
    have HB0 := Lib.hid hB0
    have HZ0 := Lib.hid hz0
    have HG0 := Lib.hid hG0
    clear hW0 hF0 hB0 hz0 hG0 c0 c1
    go_region_with_o (
        go_at_call 210
        refine (HS0.out _ (show W0.drew.heap[g]? = _ from HG0.out)).mono ?_
        rintro e w2 ⟨cap2, cells, rfl, hN, hcsz, htk, hcap2, hcm2, hbel⟩
        have hf2 : Fr [] W0.drew w2 := Fr.of_below hbel
        have hbk2 : w2.heap[b]? = some (.cells #[.slice (some ⟨g, 0, none⟩) L cap, .int .i64 0, .int .i8 lr] 46 (0, 0)) := hf2.blk (show W0.drew.heap[b]? = _ from HB0.out) List.not_mem_nil
        have d0 := cell_of_row w2 b 0 _ 46 _ hbk2
        have d1 := cell_of_row w2 b 1 _ 46 _ hbk2
        have e0 := frozen_of_row w2 b 0 _ 46 hbk2
        have e1 := frozen_of_row w2 b 1 _ 46 hbk2
        have HN := Lib.hid hN
        have HF2 := Lib.hid (HF0.out.drew.trans hf2)
        have HB2 := Lib.hid hbk2
        have HC := Lib.hid hcsz
        have HK := Lib.hid htk
        clear hN hbel hf2 hbk2 hcsz htk)
    all_goals
      go_wp2_with fail
      go_ret
      have hge := HGE.out w w2 W0.heap.size cap2 cells (.slice (some ⟨g, 0, none⟩) L cap) (.slice (some ⟨W0.heap.size, 0, none⟩) L cap2) lr HF2.out HB2.out HN.out (by rw [HZ0.out]; exact Nat.le_refl _) hlt HC.out (by rw [← HLL.out]; exact hcap2) hcm2 (by have h := HK.out; have h2 := HTK.out; rw [HLL.out] at h; exact h.trans h2)
      rw [← HLL.out] at hge
      exact ⟨rfl, hge⟩
end Go.Proofs.YtpkkgngpjeoffaaGreatDoor
