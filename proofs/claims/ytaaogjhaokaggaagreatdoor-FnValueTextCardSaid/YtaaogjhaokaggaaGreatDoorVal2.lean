import Derived.Test.YtaaogjhaokaggaaGreatDoorVal
import Derived.Deep.RegionHeld3
import Derived.Deep.RegionWith
namespace Go.Proofs.YtaaogjhaokaggaaGreatDoor
open Go.RowKit

set_option maxHeartbeats 2000000 in
set_option maxRecDepth 100000 in
theorem appBytes_str (b : Value) (s : List UInt8) (hs : s.length ≤ 1000000) (buf : Value) (l : List UInt8) (w : World) (hS : Own w 5 b s) (hB : Own w 5 buf l) (hl : l.length ≤ 900000000) (hne : ∀ g, b.ownBlock = some g → buf.ownBlock ≠ some g) :
    Calls Tryz.prog 38 #[.agg #[.int .u64 0, b, .int .u8 0], buf] w (App w buf (l ++ ([34] ++ esc (tOf sS) s ++ [34]))) := by
  have HB := Lib.hid hB; clear hB
  have HS := Lib.hid hS; clear hS
  have HNE := Lib.hid hne; clear hne
  obtain ⟨S, hSS⟩ : ∃ S : ByteArray, S = ⟨s.toArray⟩ := ⟨_, rfl⟩
  have hSd : S.data.toList = s := by rw [hSS]
  have hSz : S.size ≤ 1000000 := by rw [hSS]; show s.toArray.size ≤ 1000000; simpa using hs
  have hel := esc_len (tOf sS) s
  have HSS := Lib.hid hSS; clear hSS
  have HSD := Lib.hid hSd; clear hSd
  go_enter Tryz.func38, Tryz.ntmps38
  go_upto_region 19 with (first
    | (go_at_call 63; refine (kind_str _ _ _).mono ?_; rintro e w1 ⟨rfl, hf1⟩; have hfr1 := ((Fr.refl [] w).alloc _).trans hf1; have c0 := boxed hf1 0 _ rfl; have c1 := boxed hf1 1 _ rfl; have c2 := boxed hf1 2 _ rfl)
    | (at_builtin; refine wpApp1 w1 (o := ⟨some 46, _, _, _, _, _⟩) rfl (.tmp 44) (.tmp 45) rfl buf l _ 34 rfl rfl rfl (HB.out.fr hfr1 (by simp)) (by omega) ?_; intro v2 w2 ho2 hs2))
  have hz1 : w.heap.size < w1.heap.size := by have := hf1.size; simp at this; omega
  have hbuf : ∀ g, buf.ownBlock = some g → g < w.heap.size := HB.out.lt
  have hbw : ∀ g, b.ownBlock = some g → g < w.heap.size := HS.out.lt
  have hbox : w.heap.size ∉ buf.ownBlock.toList := fun hm => by have := hbuf _ (by simpa using hm); omega
  have cb : w2.cell? ⟨w.heap.size, 1, none⟩ = some b := hs2.1.cell c1 hbox
  have hSb : Own w2 5 b s := hs2.own (HS.out.fr hfr1 (by simp)) HNE.out
  have hvb : ∀ g, b.ownBlock = some g → v2.ownBlock ≠ some g := by
    intro g hg hv
    rcases hs2.2 with h | ⟨g', h, h'⟩
    · exact HNE.out g hg (h ▸ hv)
    · have := hbw g hg; rw [h] at hv; cases hv; omega
  have hv2 : ∀ g, v2.ownBlock = some g → g < w2.heap.size := ho2.lt
  have hcv2 : (convert 66 9 b).run Tryz.prog w2.drew = .ok (.string S) w2.drew := by rw [HSS.out]; exact conv_own (show Own w2.drew 5 b s from hSb)
  have HSB := Lib.hid hSb; clear hSb
  have HO2 := Lib.hid ho2; clear ho2
  have HL := Lib.hid (show (l ++ [34]).length ≤ 1000000000 by simp; omega)
  clear c0 c1 c2
  go_region_with (first
    | (go_at_call 72; refine (escS_any _).mono ?_; rintro e w3 ⟨rfl, hE3, hf3d⟩; have hf3 := (Fr.refl [] w2).drew.trans hf3d; have c3 := hf3.cell (p := ⟨w.heap.size, 1, none⟩) cb (by simp); have hcv3 : (convert 66 9 b).run Tryz.prog w3 = .ok (.string S) w3 := (by rw [HSS.out]; exact conv_own (HSB.out.fr hf3 (by simp))))
    | (go_at_call 73; refine (appendEscaped_any (tOf sS) _ S _ v2 _ hSz HL.out hE3 (HO2.out.fr hf3 (by simp)) (fun g hg => by have := hv2 g hg; simp; omega)).mono ?_; rintro e w4 ⟨v4, rfl, ho4, hs4⟩))
  all_goals
    have HO4 := Lib.hid ho4; clear ho4
    go_wp2_with (at_builtin; refine wpApp1 w4 (o := ⟨some 55, _, _, _, _, _⟩) rfl (.tmp 53) (.tmp 54) rfl v4 _ _ 34 rfl rfl rfl HO4.out (by rw [HSD.out]; simp; omega) ?_; intro v5 w5 ho5 hs5)
    go_ret
    exact App.mk (by rw [HSD.out] at ho5; simpa using ho5) (Stp.pre hfr1 (Stp.trans hs2 (Stp.pre hf3 (Stp.trans hs4 hs5))))

/-- AppendBytes, of any value. -/
theorem appBytes_any {F : Nat → List UInt8} {fin : Nat → Prop} (hF : FloatSaid F fin) {B : Nat} {ea : Addr} (v : Value) (x : Val) (hx : ∀ n, x = .flt n → fin n) (hxs : ∀ s, x = .str s → s.length ≤ 1000000) (buf : Value) (l : List UInt8) (w : World) (hG : Gv B ea w) (hV : LV w v x) (hB : Own w 5 buf l) (hl : l.length ≤ 900000000)
    (hBb : ∀ g, buf.ownBlock = some g → B ≤ g) (hne : ∀ g, lvBlock v = some g → buf.ownBlock ≠ some g) :
    Calls Tryz.prog 38 #[v, buf] w (App w buf (l ++ valText F x)) := by
  cases x with
  | str s =>
    obtain ⟨b, rfl, hb⟩ := hV
    exact appBytes_str b s (hxs s rfl) buf l w hb hB hl (fun g hg => hne g (by simpa [lvBlock] using hg))
  | int n =>
    obtain ⟨rfl, h0, h1⟩ := hV
    exact appBytes_int n h0 h1 buf l w hG hB hl hBb
  | uint n =>
    obtain ⟨rfl, h1⟩ := hV
    exact appBytes_uint n h1 buf l w hG hB hl
  | flt n =>
    obtain rfl := hV
    exact appBytes_flt hF n (hx n rfl) buf l w hG hB hl hBb
  | bool b =>
    obtain rfl := hV
    exact appBytes_bool b buf l w hB hl F
end Go.Proofs.YtaaogjhaokaggaaGreatDoor
