import Derived.Test.YtaaogjhaokaggaaGreatDoorEncE
import Derived.LaidEql
namespace Go.Proofs.YtaaogjhaokaggaaGreatDoor
open Go.RowKit

/-- Behind turns of the encoder's own block alone, where the buffer and the key stay. -/
theorem EncC.reE {B : Nat} {ea : Addr} {w w' : World} {b : Nat} {st : St} {vb vk ve : Value} {pi : Int} (h : EncC B ea w b st vb vk ve pi) (f : Fr [b] w w') (st' : St) (ve' : Value) (pi' : Int)
    (hr : ER w' b #[vb, vk, .int .i64 st'.start, .int .u8 st'.sec, .bool st'.lax, .bool st'.bad, ve', .int .i64 pi', .int .i64 st'.mul]) (e1 : st'.buf = st.buf) (e2 : st'.key = st.key) (e3 : ErrIs B ea w ve' st'.err) : EncC B ea w' b st' vb vk ve' pi' :=
  ⟨hr, by rw [e1]; exact h.obuf.fr f (fun g hg hm => by simp at hm; subst hm; exact h.row.ne h.obuf hg), by rw [e2]; exact h.okey.fr f (fun g hg hm => by simp at hm; subst hm; exact h.row.ne h.okey hg), h.apart, h.lowb, h.lowk, h.low, e3.frB f h.row⟩

set_option maxRecDepth 100000 in
theorem clearErr_any {B : Nat} {ea : Addr} (b : Nat) (st : St) (w : World) (h : Enc B ea w b st) :
    Calls Tryz.prog 83 #[.pointer (some ⟨b, 0, none⟩)] w fun e w' => e = .returned (.tuple #[]) ∧ Mid B ea b { st with err := 0 } w w' := by
  obtain ⟨vb, vk, ve, pi, hE⟩ := h
  obtain ⟨⟨c0, c1, c2, c3, c4, c5, c6, c7, c8⟩, f0, f1, f2, f3, f4, f5, f6, f7, f8⟩ := hE.row.all
  have HE := Lib.hid hE; clear hE
  go_enter Tryz.func83, Tryz.ntmps83
  go_wp2_with fail
  go_end0
  exact ⟨rfl, ⟨vb, vk, .nilIface, pi, HE.out.reE ((Fr.refl [b] w).setCell (.inl (by simp)) _) _ _ _ (HE.out.row.set 6 _) rfl rfl (.inl ⟨rfl, rfl⟩)⟩, FrE.self HE.out.low ((Fr.refl [b] w).setCell (.inl (by simp)) _)⟩

set_option maxRecDepth 100000 in
theorem setLax_any {B : Nat} {ea : Addr} (b : Nat) (st : St) (x : Bool) (w : World) (h : Enc B ea w b st) :
    Calls Tryz.prog 86 #[.pointer (some ⟨b, 0, none⟩), .bool x] w fun e w' => e = .returned (.tuple #[]) ∧ Mid B ea b { st with lax := x } w w' := by
  obtain ⟨vb, vk, ve, pi, hE⟩ := h
  obtain ⟨⟨c0, c1, c2, c3, c4, c5, c6, c7, c8⟩, f0, f1, f2, f3, f4, f5, f6, f7, f8⟩ := hE.row.all
  have HE := Lib.hid hE; clear hE
  go_enter Tryz.func86, Tryz.ntmps86
  go_wp2_with fail
  go_end0
  exact ⟨rfl, ⟨vb, vk, ve, pi, HE.out.reE ((Fr.refl [b] w).setCell (.inl (by simp)) _) _ _ _ (HE.out.row.set 4 _) rfl rfl HE.out.er⟩, FrE.self HE.out.low ((Fr.refl [b] w).setCell (.inl (by simp)) _)⟩

/-- Nanoseconds of a precision. -/
def ticks (p : Nat) : Int := if p = 0 then 1 else if p = 1 then 1000 else if p = 2 then 1000000 else 1000000000

theorem duration_any (p : Nat) (hp : p ≤ 3) (w : World) :
    Calls Tryz.prog 55 #[.int .u8 p] w fun e w' => e = .returned (.int .i64 (ticks p)) ∧ w' = w := by
  have h : p = 0 ∨ p = 1 ∨ p = 2 ∨ p = 3 := by omega
  rcases h with rfl | rfl | rfl | rfl
  all_goals
    go_enter Tryz.func55, Tryz.ntmps55
    go_wp2
    go_ret
    exact ⟨rfl, rfl⟩

set_option maxRecDepth 100000 in
theorem setPrec_any {B : Nat} {ea : Addr} (b : Nat) (st : St) (p : Nat) (hp : p ≤ 3) (w : World) (h : Enc B ea w b st) :
    Calls Tryz.prog 85 #[.pointer (some ⟨b, 0, none⟩), .int .u8 p] w fun e w' => e = .returned (.tuple #[]) ∧ Mid B ea b { st with mul := ticks p } w w' := by
  obtain ⟨vb, vk, ve, pi, hE⟩ := h
  obtain ⟨⟨c0, c1, c2, c3, c4, c5, c6, c7, c8⟩, f0, f1, f2, f3, f4, f5, f6, f7, f8⟩ := hE.row.all
  have HE := Lib.hid hE; clear hE
  go_enter Tryz.func85, Tryz.ntmps85
  go_wp2_with (go_at_call 55; refine (duration_any p hp _).mono ?_; rintro e w1 ⟨rfl, rfl⟩)
  go_end0
  exact ⟨rfl, ⟨vb, vk, ve, pi, HE.out.reE ((Fr.refl [b] _).setCell (.inl (by simp)) _) _ _ _ (HE.out.row.set 8 _) rfl rfl HE.out.er⟩, FrE.self HE.out.low ((Fr.refl [b] _).setCell (.inl (by simp)) _)⟩

theorem err_any {B : Nat} {ea : Addr} (b : Nat) (st : St) (vb vk ve : Value) (pi : Int) (w : World) (hE : EncC B ea w b st vb vk ve pi) :
    Calls Tryz.prog 46 #[.pointer (some ⟨b, 0, none⟩)] w fun e w' => e = .returned ve ∧ w' = w := by
  obtain ⟨⟨c0, c1, c2, c3, c4, c5, c6, c7, c8⟩, f0, f1, f2, f3, f4, f5, f6, f7, f8⟩ := hE.row.all
  clear hE
  go_enter Tryz.func46, Tryz.ntmps46
  go_wp2
  go_ret
  exact ⟨rfl, rfl⟩
theorem bytes_any {B : Nat} {ea : Addr} (b : Nat) (st : St) (vb vk ve : Value) (pi : Int) (w : World) (hE : EncC B ea w b st vb vk ve pi) :
    Calls Tryz.prog 48 #[.pointer (some ⟨b, 0, none⟩)] w fun e w' => e = .returned vb ∧ w' = w := by
  obtain ⟨⟨c0, c1, c2, c3, c4, c5, c6, c7, c8⟩, f0, f1, f2, f3, f4, f5, f6, f7, f8⟩ := hE.row.all
  clear hE
  go_enter Tryz.func48, Tryz.ntmps48
  go_wp2
  go_ret
  exact ⟨rfl, rfl⟩

set_option maxRecDepth 100000 in
theorem outside_nil (w : World) : Calls Tryz.prog 47 #[.nilIface] w fun e w' => e = .returned (.bool false) ∧ w' = w := by
  go_enter Tryz.func47, Tryz.ntmps47
  go_wp2
  go_ret
  exact ⟨rfl, rfl⟩
set_option maxRecDepth 100000 in
theorem outside_ptr {B : Nat} {ea : Addr} (a : Addr) (w : World) (hG : Gl B ea w) (r : Bool) (hr : (binOp .eql 83 (.iface 195 (.pointer (some a))) (.iface 195 (.pointer (some ea)))).run Tryz.prog w = .ok (.bool r) w) : Calls Tryz.prog 47 #[.iface 195 (.pointer (some a))] w fun e w' => e = .returned (.bool r) ∧ w' = w := by
  have ge := hG.err
  clear hG
  go_enter Tryz.func47, Tryz.ntmps47
  go_wp2
  go_ret
  exact ⟨rfl, rfl⟩
theorem iErrS : (Tryz.prog.info? 197).map (·.size) = some 1 := by kernel_rfl
theorem i195 : (Tryz.prog.info? 195).map (·.comparable) = some true := by kernel_rfl
theorem outside_any {B : Nat} {ea : Addr} (ve : Value) (k : Nat) (w : World) (hG : Gl B ea w) (h : ErrIs B ea w ve k) : Calls Tryz.prog 47 #[ve] w fun e w' => e = .returned (.bool (k == 2)) ∧ w' = w := by
  obtain ⟨i, hi, hc⟩ := Option.map_eq_some_iff.1 i195
  obtain ⟨j, hj, hsz⟩ := Option.map_eq_some_iff.1 iErrS
  rcases h with ⟨rfl, rfl⟩ | ⟨rfl, a, rfl, ha, ca, h4⟩ | ⟨rfl, rfl⟩
  · exact outside_nil w
  · have hb := hG.eaB
    obtain ⟨cb, tb, hr⟩ := hG.eaR
    have hne : a ≠ ea := by rintro rfl; omega
    exact outside_ptr a w hG false (run_eql_iface_ptr_other w Tryz.underlying83 Tryz.underlying195 hi hc hj (by omega) hne h4 hr)
  · exact outside_ptr ea w hG true (run_eql_iface_ptr_same w ea Tryz.underlying83 Tryz.underlying195 hi hc hj)

theorem endLine_zero {B : Nat} {ea : Addr} (b : Nat) (st : St) (w0 : World) (hG : Gl B ea w0) (h : Enc B ea w0 b st) (hst : st.start ≤ st.buf.length) (hlen : st.buf.length ≤ 100000000) :
    Calls Tryz.prog 122 #[.pointer (some ⟨b, 0, none⟩), .agg #[.int .u64 0, .int .i64 0, .pointer none]] w0 fun e w' => e = .returned (.tuple #[]) ∧ Mid B ea b (st.endl none) w0 w' :=
  endLine_any b st 0 w0 hG h hst hlen (by decide) (by decide)

set_option maxRecDepth 100000 in
set_option maxHeartbeats 1000000 in
theorem doorEnd_any {B : Nat} {ea : Addr} (b : Nat) (st : St) (n m : Int) (z : Bool) (w0 : World) (hG : Gl B ea w0) (h : Enc B ea w0 b st) (hst : st.start ≤ st.buf.length) (hlen : st.buf.length ≤ 100000000)
    (hn0 : -9223372036854775808 ≤ n) (hn1 : n ≤ 9223372036854775807) (hm0 : -9223372036854775808 ≤ m) (hm1 : m ≤ 9223372036854775807) :
    Calls Tryz.prog 82 #[.pointer (some ⟨b, 0, none⟩), .int .i64 n, .int .i64 m, .bool z] w0 fun e w' => e = .returned (.tuple #[]) ∧ Mid B ea b (st.endl (if z then none else some (n + m))) w0 w' := by
  have hE : ∀ wx, Fr [] w0 wx → Enc B ea wx b st := by
    obtain ⟨vb, vk, ve, pi, hE⟩ := h
    exact fun wx f => ⟨vb, vk, ve, pi, hE.fr f⟩
  have HEn := Lib.hid hE
  have HG := Lib.hid (fun wx (f : Fr [] w0 wx) => hG.fr f (by simp))
  clear hE hG
  cases z with
  | true =>
    rw [if_pos rfl]
    go_enter Tryz.func82, Tryz.ntmps82
    go_wp2_with (go_at_call 122; refine (endLine_zero b st _ (HG.out _ ((Fr.refl _ _).alloc _)) (HEn.out _ ((Fr.refl _ _).alloc _)) hst hlen).mono ?_; rintro e w2 ⟨rfl, hm2⟩)
    go_end0
    exact ⟨rfl, hm2.1, (FrE.of ((Fr.refl [] w0).alloc _)).trans hm2.2⟩
  | false =>
    simp only [Bool.false_eq_true, if_false]
    have hT : T70 + n + m ≠ 0 := by unfold T70; omega
    have hTT : T70 + n + m - T70 = n + m := by omega
    have HT := Lib.hid hT
    have HTT := Lib.hid hTT
    have hr1 : -1000000000000000000000000 ≤ T70 + n := by unfold T70; omega
    have hr2 : T70 + n < 1000000000000000000000000 := by unfold T70; omega
    have hr3 : -1000000000000000000000000 ≤ T70 + n + m := by unfold T70; omega
    have hr4 : T70 + n + m ≤ 1000000000000000000000000 := by unfold T70; omega
    clear hT hTT
    go_enter Tryz.func82, Tryz.ntmps82
    go_wp2_with (first
      | (go_at_call 120; refine (zzUnix_any n _ hn0 hn1).mono ?_; rintro e w1 ⟨rfl, hf1⟩; have HB1 := Lib.hid (hf1.blk (heap_alloc_new w0 _) (by simp)))
      | (go_at_call 121; refine (addT_any (T70 + n) m _ hr1 hr2 hm0 hm1).mono ?_; rintro e w2 ⟨rfl, hf2⟩; have HB2 := Lib.hid (hf2.blk HB1.out (by simp)); have d0 := cell_of_row w2 w0.heap.size 0 _ 153 _ HB2.out; have d1 := cell_of_row w2 w0.heap.size 1 _ 153 _ HB2.out; have d2 := cell_of_row w2 w0.heap.size 2 _ 153 _ HB2.out; have f0 := frozen_of_row w2 w0.heap.size 0 _ 153 HB2.out; have f1 := frozen_of_row w2 w0.heap.size 1 _ 153 HB2.out; have f2 := frozen_of_row w2 w0.heap.size 2 _ 153 HB2.out; have HF2 := Lib.hid ((((Fr.refl [] w0).alloc _).trans hf1).trans hf2))
      | (go_at_call 122; have HF3 := Lib.hid (((HF2.out.setCell (p := ⟨w0.heap.size, 0, none⟩) (.inr (Nat.le_refl _)) (.int .u64 ((T70 + n + m) % 1000000000))).setCell (p := ⟨w0.heap.size, 1, none⟩) (.inr (Nat.le_refl _)) (.int .i64 ((T70 + n + m) / 1000000000))).setCell (p := ⟨w0.heap.size, 2, none⟩) (.inr (Nat.le_refl _)) (.pointer none)); refine (endLine_any b st (T70 + n + m) _ (HG.out _ HF3.out) (HEn.out _ HF3.out) hst hlen hr3 hr4).mono ?_; rintro e w4 ⟨rfl, hm4⟩))
    go_end0
    rw [if_neg HT.out, HTT.out] at hm4
    exact ⟨rfl, hm4.1, (FrE.of HF3.out).trans hm4.2⟩
end Go.Proofs.YtaaogjhaokaggaaGreatDoor
