/- PROVED HERE: a part of round r2's proofs (text BufU): lemmas and walks that later texts use. CONDITIONS: those written ahead of each theorem. -/
import Derived.Test.YtpkkgngpjeoffaaGreatDoorBufT
namespace Go.Proofs.YtpkkgngpjeoffaaGreatDoor
open Go.RowKit

/-- What a write leaves. -/
def WrQ (w : World) (b : Nat) (v : Value) (l m : List UInt8) (w' : World) : Prop :=
  Fr (b :: v.ownBlock.toList) w w' ∧ ∃ v', BufW w' b v' (l ++ m) ∧ (v'.ownBlock = v.ownBlock ∨ ∃ g, v'.ownBlock = some g ∧ w.heap.size ≤ g)
set_option maxRecDepth 100000 in
set_option maxHeartbeats 2000000 in
theorem write_room (b g cap : Nat) (l m : List UInt8) (cur : Array Value) (lr : Int) (p : Value) (w : World) (hb : w.heap[b]? = some (.cells #[.slice (some ⟨g, 0, none⟩) l.length cap, .int .i64 0, .int .i8 lr] 46 (0, 0)))
    (hg : w.heap[g]? = some (.cells cur 5 (0, 0))) (hcs : cur.size = cap) (hlc : l.length ≤ cap) (hcm : cap ≤ maxLen) (ht : cur.toList.take l.length = bvs l) (hgb : g ≠ b) (hroom : m.length ≤ cap - l.length)
    (hp : Own w 5 p m) (hm : m ≠ []) (hpb : p.ownBlock ≠ some b) (hpn : ∃ a n c, p = .slice a n c ∧ n = m.length) (hlim : l.length + m.length ≤ 1000000000) :
    Calls Tryz.prog 205 #[.pointer (some ⟨b, 0, none⟩), p] w fun e w' => e = .returned (.tuple #[.int .i64 m.length, .nilIface]) ∧ WrQ w b (.slice (some ⟨g, 0, none⟩) l.length cap) l m w' := by
  obtain ⟨pa, pn, pc, rfl, hpn⟩ := hpn
  obtain ⟨L, hL⟩ : ∃ L, L = l.length := ⟨_, rfl⟩
  obtain ⟨n, hn⟩ : ∃ n, n = m.length := ⟨_, rfl⟩
  have n1 : 1 ≤ n := by rw [hn]; exact List.length_pos_iff.2 hm
  rw [← hn] at hpn
  subst hpn
  have HP := Lib.hid hp
  have HM := Lib.hid hm
  have HT := Lib.hid ht
  have HL := Lib.hid hL
  have HN := Lib.hid hn
  rw [← hL] at hb hlc hroom hlim ⊢
  rw [← hn] at hroom hlim ⊢
  have c2 := cell_of_row w b 2 _ 46 _ hb
  have f2 := frozen_of_row w b 2 _ 46 hb
  obtain ⟨w1, hw1⟩ : ∃ w1, w1 = w.setCell ⟨b, 2, none⟩ (.int .i8 0) := ⟨_, rfl⟩
  have hb1 : w1.heap[b]? = some (.cells #[.slice (some ⟨g, 0, none⟩) L cap, .int .i64 0, .int .i8 0] 46 (0, 0)) := by rw [hw1]; exact heap_setCell_same w b 2 _ 46 _ hb
  have hf1 : Fr [b] w w1 := by rw [hw1]; exact (Fr.refl [b] w).setCell (.inl (by simp)) _
  have HTG := Lib.hid (Tryz.Buffer_tryGrow_room b (some ⟨g, 0, none⟩) L cap pn w1 (cell_of_row w1 b 0 _ 46 _ hb1) (frozen_of_row w1 b 0 _ 46 hb1) hlc hcm hroom)
  obtain ⟨w2, hw2⟩ : ∃ w2, w2 = w1.setCell ⟨b, 0, none⟩ (.slice (some ⟨g, 0, none⟩) (L + pn) cap) := ⟨_, rfl⟩
  rw [← hw2] at HTG
  have hb2 : w2.heap[b]? = some (.cells #[.slice (some ⟨g, 0, none⟩) (L + pn) cap, .int .i64 0, .int .i8 0] 46 (0, 0)) := by rw [hw2]; exact heap_setCell_same w1 b 0 _ 46 _ hb1
  have hf2 : Fr [b] w w2 := by rw [hw2]; exact hf1.setCell (.inl (by simp)) _
  have HW1 := Lib.hid hw1
  have HB2 := Lib.hid hb2
  have HF2 := Lib.hid hf2
  have HG2 := Lib.hid (hf2.blk hg (by simp; exact hgb))
  have HP2 := Lib.hid (hp.fr hf2 (fun k hk => by simp; intro e; exact hpb (by rw [hk, e])))
  have k0 := cell_of_row w2 b 0 _ 46 _ hb2
  have i1 : (L : Int) + (pn : Int) ≤ 1000000000 := by omega
  have i2 : (L : Int) + (pn : Int) ≤ (cap : Int) := by omega
  have i3 : (1 : Int) ≤ (pn : Int) := by omega
  clear hb hg ht hp hpb hw1 hb1 hf1 hw2 hb2 hf2 hm hL hn
  go_enter Tryz.func205, Tryz.ntmps205
  go_upto_region 2 with fail
  rw [← HW1.out]
  go_upto_region 5 with (go_at_call 209; refine HTG.out.mono ?_; rintro e w3 ⟨rfl, rfl⟩)
  go_wp2_with (refine wpCopyAt w3 rfl (.tmp 29) (.tmp 30) rfl g L (cap - L) (.slice pa pn pc) m (by rw [← HN.out]; rfl) rfl HP2.out HM.out cur HG2.out (by rw [hcs, ← HN.out]; omega) ?_; intro w4 cur4 hg4 hs4 ht4 hf4; have HG4 := Lib.hid hg4; have HS4 := Lib.hid hs4; have HT4 := Lib.hid ht4; have HF4 := Lib.hid hf4; clear hg4 hs4 ht4 hf4)
  go_ret2
  refine ⟨by rw [HN.out]; rfl, ?_, .slice (some ⟨g, 0, none⟩) (L + pn) cap, ⟨⟨0, HF4.out.blk HB2.out (by simp; omega)⟩, .inr ⟨g, cap, cur4, ?_, HG4.out, ?_, ?_, hcm, ?_, hgb⟩⟩, .inl rfl⟩
  · exact (HF2.out.sub (by simp)).trans (HF4.out.sub (by simp [Value.ownBlock]))
  · rw [List.length_append, ← HL.out, ← HN.out]
  · rw [HS4.out, hcs]
  · rw [List.length_append, ← HL.out, ← HN.out]; omega
  · rw [List.length_append, ← HL.out]
    rw [HT4.out, bvs_append, ← HT.out, HL.out]
set_option maxRecDepth 100000 in
set_option maxHeartbeats 2000000 in
theorem write_grow (b cap : Nat) (ao : Option Addr) (l m : List UInt8) (lr : Int) (p : Value) (w : World) (hb : w.heap[b]? = some (.cells #[.slice ao l.length cap, .int .i64 0, .int .i8 lr] 46 (0, 0)))
    (hlc : l.length ≤ cap) (hcm : cap ≤ maxLen) (hno : cap - l.length < m.length)
    (hgr : ∀ W : World, Fr [b] w W → W.heap[b]? = some (.cells #[.slice ao l.length cap, .int .i64 0, .int .i8 0] 46 (0, 0)) → Calls Tryz.prog 208 #[.pointer (some ⟨b, 0, none⟩), .int .i64 m.length] W fun e w' => e = .returned (.int .i64 l.length) ∧ GrowQ W b l m.length w')
    (hp : Own w 5 p m) (hm : m ≠ []) (hpb : p.ownBlock ≠ some b) (hpn : ∃ a n c, p = .slice a n c ∧ n = m.length) (hlim : l.length + m.length ≤ 1000000000) :
    Calls Tryz.prog 205 #[.pointer (some ⟨b, 0, none⟩), p] w fun e w' => e = .returned (.tuple #[.int .i64 m.length, .nilIface]) ∧ WrQ w b (.slice ao l.length cap) l m w' := by
  obtain ⟨pa, pn, pc, rfl, hpn⟩ := hpn
  obtain ⟨L, hL⟩ : ∃ L, L = l.length := ⟨_, rfl⟩
  obtain ⟨n, hn⟩ : ∃ n, n = m.length := ⟨_, rfl⟩
  have n1 : 1 ≤ n := by rw [hn]; exact List.length_pos_iff.2 hm
  rw [← hn] at hpn
  subst hpn
  have HP := Lib.hid hp
  have HM := Lib.hid hm
  have HL := Lib.hid hL
  have HN := Lib.hid hn
  have hpl : ∀ k, (Value.slice pa pn pc).ownBlock = some k → k < w.heap.size := hp.lt
  rw [← hL] at hb hlc hno hlim hgr ⊢
  rw [← hn] at hno hlim hgr ⊢
  have hlt : b < w.heap.size := (Array.getElem?_eq_some_iff.1 hb).1
  have c2 := cell_of_row w b 2 _ 46 _ hb
  have f2 := frozen_of_row w b 2 _ 46 hb
  obtain ⟨w1, hw1⟩ : ∃ w1, w1 = w.setCell ⟨b, 2, none⟩ (.int .i8 0) := ⟨_, rfl⟩
  have hb1 : w1.heap[b]? = some (.cells #[.slice ao L cap, .int .i64 0, .int .i8 0] 46 (0, 0)) := by rw [hw1]; exact heap_setCell_same w b 2 _ 46 _ hb
  have hf1 : Fr [b] w w1 := by rw [hw1]; exact (Fr.refl [b] w).setCell (.inl (by simp)) _
  have hs1 : w1.heap.size = w.heap.size := by rw [hw1]; simp
  have HTG := Lib.hid (Tryz.Buffer_tryGrow_none b ao L cap pn w1 (cell_of_row w1 b 0 _ 46 _ hb1) hlc hcm hno)
  have HGR := Lib.hid (hgr w1 hf1 hb1)
  have HW1 := Lib.hid hw1
  have HF1 := Lib.hid hf1
  have HS1 := Lib.hid hs1
  have HPB := Lib.hid (show ∀ k, (Value.slice pa pn pc).ownBlock = some k → k ∉ [b] from fun k hk => by simp; intro e; exact hpb (by rw [hk, e]))
  have i1 : (L : Int) + (pn : Int) ≤ 1000000000 := by omega
  have i3 : (1 : Int) ≤ (pn : Int) := by omega
  have HPL := Lib.hid hpl
  clear hb hp hpb hw1 hb1 hf1 hm hL hn hgr hpl hs1
  go_enter Tryz.func205, Tryz.ntmps205
  go_upto_region 2 with fail
  rw [← HW1.out]
  go_upto_region 5 with (first
    | (go_at_call 209; refine HTG.out.mono ?_; rintro e w3 ⟨rfl, rfl⟩)
    | (go_at_call 208; refine HGR.out.mono ?_; rintro e w3 ⟨rfl, hf3, g, cap3, cur, lr3, hb3, hg3, hc3, hcs3, hle3, hcm3, ht3⟩; have HF3 := Lib.hid hf3; have HB3 := Lib.hid hb3; have HG3 := Lib.hid hc3; have HT3 := Lib.hid ht3; have k0 := cell_of_row w3 b 0 _ 46 _ hb3; clear hf3 hb3 hc3 ht3))
  have hgb : g ≠ b := by have := HS1.out; omega
  have HP3 := Lib.hid ((HP.out.fr HF1.out HPB.out).fr HF3.out HPB.out)
  have i2 : (L : Int) + (pn : Int) ≤ (cap3 : Int) := by have := HL.out; omega
  rw [← HL.out] at hle3
  have hkk : l.length = L := HL.out.symm
  have HB4 : Hid (w3.heap[b]? = some (.cells #[.slice (some ⟨g, 0, none⟩) (L + pn) cap3, .int .i64 0, .int .i8 lr3] 46 (0, 0))) := Lib.hid (by have := HB3.out; rw [hkk] at this; exact this)
  clear k0
  have k0 := cell_of_row w3 b 0 _ 46 _ HB4.out
  clear hkk
  go_wp2_with (refine wpCopyAt w3 rfl (.tmp 29) (.tmp 30) rfl g L (cap3 - L) (.slice pa pn pc) m (by rw [← HN.out]; rfl) rfl HP3.out HM.out cur HG3.out (by rw [hcs3, ← HN.out]; omega) ?_; intro w4 cur4 hg4 hs4 ht4 hf4; have HG4 := Lib.hid hg4; have HS4 := Lib.hid hs4; have HT4 := Lib.hid ht4; have HF4 := Lib.hid hf4; clear hg4 hs4 ht4 hf4)
  go_ret2
  refine ⟨by rw [HN.out]; rfl, ?_, .slice (some ⟨g, 0, none⟩) (L + pn) cap3, ⟨⟨lr3, HF4.out.blk HB4.out (by simp; omega)⟩, .inr ⟨g, cap3, cur4, ?_, HG4.out, ?_, ?_, hcm3, ?_, hgb⟩⟩, .inr ⟨g, rfl, by have := HS1.out; omega⟩⟩
  · refine ((HF1.out.trans HF3.out).sub (by simp)).step HF4.out (fun t ht => .inr ?_)
    simp at ht
    have := HS1.out
    omega
  · rw [List.length_append, ← HL.out, ← HN.out]
  · rw [HS4.out, hcs3]
  · rw [List.length_append, ← HL.out, ← HN.out]; omega
  · rw [List.length_append, ← HL.out]
    rw [HT4.out, bvs_append, ← HT3.out, HL.out]
theorem bufWrite_any (b : Nat) (v : Value) (l m : List UInt8) (p : Value) (w : World) (hB : BufW w b v l) (hp : Own w 5 p m) (hm : m ≠ []) (hpb : p.ownBlock ≠ some b) (hlim : l.length + m.length ≤ 1000000000) :
    Calls Tryz.prog 205 #[.pointer (some ⟨b, 0, none⟩), p] w fun e w' => e = .returned (.tuple #[.int .i64 m.length, .nilIface]) ∧ WrQ w b v l m w' := by
  have hpn : ∃ a n c, p = .slice a n c ∧ n = m.length := by
    rcases hp with ⟨rfl, rfl⟩ | ⟨g, cap, rfl, hr⟩
    · exact ⟨_, _, _, rfl, rfl⟩
    · exact ⟨_, _, _, rfl, rfl⟩
  have m1 : 1 ≤ m.length := List.length_pos_iff.2 hm
  obtain ⟨⟨lr, hb⟩, h2⟩ := hB
  rcases h2 with ⟨rfl, rfl⟩ | ⟨g, cap, cur, rfl, hg, hcs, hlc, hcm, ht, hgb⟩
  · refine write_grow b 0 none [] m lr p w hb (Nat.le_refl _) (by unfold maxLen; omega) (by simp; omega) (fun W hF hW => ?_) hp hm hpb hpn hlim
    by_cases h64 : m.length ≤ 64
    · exact grow_small b 0 m.length W hW m1 h64
    · exact grow_big b 0 m.length W hW (by omega) (by simpa using hlim)
  · by_cases hroom : m.length ≤ cap - l.length
    · exact write_room b g cap l m cur lr p w hb hg hcs hlc hcm ht hgb hroom hp hm hpb hpn hlim
    · exact write_grow b cap (some ⟨g, 0, none⟩) l m lr p w hb hlc hcm (by omega) (fun W hF hW => grow_row b 0 m.length g cap l cur W hW (hF.blk hg (by simp; exact hgb)) hcs hlc hcm ht hgb m1 (by omega) hlim) hp hm hpb hpn hlim
end Go.Proofs.YtpkkgngpjeoffaaGreatDoor
