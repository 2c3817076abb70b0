import Derived.Test.YtaaogjhaokaggaaGreatDoorFlt5
import Derived.Test.YtaaogjhaokaggaaGreatDoorShelf
import Derived.Lib.ItoaLen
import Derived.Sort.AtCall
namespace Go.Proofs.YtaaogjhaokaggaaGreatDoor
open Go.RowKit Go.Sort Go.Lib

/-- The digits of d, d = 0 having none. -/
def nD (d : Nat) : Nat := if d = 0 then 0 else nDigits d
def digs (d : Nat) : List UInt8 := (List.range (nD d)).map fun t => dg d (nD d - 1 - t)
/-- The trailing zeros off. -/
def trimZ (l : List UInt8) : List UInt8 := (l.reverse.dropWhile (· == 48)).reverse
def dig (d : Nat) : List UInt8 := trimZ (digs d)
theorem digs_length (d : Nat) : (digs d).length = nD d := by simp [digs]
theorem nD_le (d : Nat) (hd : d < 18446744073709551616) : nD d ≤ 20 := by
  unfold nD
  split
  · omega
  · exact nDigits_le20 d hd
theorem lt_nD (d : Nat) : d < 10 ^ nD d := by
  unfold nD
  split
  · next h => subst h; decide
  · exact lt_pow_nDigits d
theorem trimZ_zero (l : List UInt8) : trimZ (l ++ [48]) = trimZ l := by simp [trimZ]
theorem trimZ_other (l : List UInt8) (c : UInt8) (h : c ≠ 48) : trimZ (l ++ [c]) = l ++ [c] := by simp [trimZ, h]
theorem trimZ_nil : trimZ [] = [] := rfl
theorem trimZ_prefix (l : List UInt8) : ∃ m, l = trimZ l ++ m := by
  refine ⟨(l.reverse.takeWhile (· == 48)).reverse, ?_⟩
  unfold trimZ
  rw [← List.reverse_append, List.takeWhile_append_dropWhile, List.reverse_reverse]
theorem dig_length_le (d : Nat) : (dig d).length ≤ nD d := by
  obtain ⟨m, hm⟩ := trimZ_prefix (digs d)
  have := congrArg List.length hm
  rw [digs_length, List.length_append] at this
  unfold dig
  omega

theorem Dg.pre {w : World} {g : Nat} {l m : List UInt8} (h : Dg w g l) (hp : ∃ r, l = m ++ r) : Dg w g m := by
  obtain ⟨r, rfl⟩ := hp
  obtain ⟨cs, T, h1, h2, h3⟩ := h
  refine ⟨cs, T, h1, h2, fun i hi => ?_⟩
  rw [h3 i (by simp; omega), List.getElem_append_left hi]
abbrev encB : UInt8 → Value := fun b => Value.int .u8 (b.toNat : Int)
theorem onRow (w : World) (g : Nat) (dk : Array UInt8) (n : Nat) (cs : Array Value) (T : TypeId) (h : w.heap[g]? = some (.cells cs T (0, 0))) :
    ((putRow encB w g 0 dk).drewN n).heap[g]? = some (.cells (putCells encB 0 dk cs) T (0, 0)) := by
  show (mapBlock w g (putCells encB 0 dk)).heap[g]? = _
  simp [mapBlock, Array.getElem?_modify, h, onCells]
theorem fr_putRow (w : World) (g : Nat) (dk : Array UInt8) (n : Nat) : Fr [g] w ((putRow encB w g 0 dk).drewN n) := by
  refine ⟨rfl, rfl, rfl, by simp, fun k hk hs => ?_⟩
  show (mapBlock w g (putCells encB 0 dk)).heap[k]? = _
  have : g ≠ k := fun e => hs (by simp [e])
  simp [mapBlock, Array.getElem?_modify, this]

theorem fmt_any (d : Nat) (hd : d < 18446744073709551616) (g : Nat) (w : World) (cs : Array Value) (T : TypeId) (hg : w.heap[g]? = some (.cells cs T (0, 0))) (hs : cs.size = 32) (hz : ∀ j, j < 32 → cs[j]? = some (.int .u8 0)) :
    Calls Tryz.prog 97 #[.slice (some ⟨g, 0, none⟩) (nD d) 32, .int .u64 d] w fun e w' => e = .returned (.tuple #[]) ∧ Dg w' g (digs d) ∧ Fr [g] w w' := by
  have h20 := nD_le d hd
  have hH : Holds encB w g 0 (Array.replicate (nD d) 0) := fun j hj => by
    rw [Array.size_replicate] at hj
    refine ⟨?_, ?_⟩
    · rw [Nat.zero_add, cell_of_row w g j cs T (0, 0) hg, hz j (by omega)]
      simp [encB, hj]
    · rw [Nat.zero_add]; exact frozen_of_row w g j cs T hg
  have h := Tryz.internal_strconv_formatBase10 g 0 32 d (Array.replicate (nD d) 0) w hH (by rw [Array.size_replicate]; exact lt_nD d) hd (by rw [Array.size_replicate]; omega)
  rw [Array.size_replicate] at h
  refine h.mono ?_
  rintro e w' ⟨rfl, n, v', dk, rfl, hF⟩
  refine ⟨rfl, ⟨_, T, onRow w g dk n cs T hg, by simp [putCells, hs], fun i hi => ?_⟩, fr_putRow w g dk n⟩
  rw [digs_length] at hi
  have h1 := hF.done i (Nat.zero_le _) hi
  have h2 := hF.size
  simp only [putCells, Array.getElem?_mapIdx, hz i (by omega), Option.map_some]
  rw [if_pos (by omega)]
  simp only [Nat.sub_zero, h1]
  simp [bv, encB, digs]

set_option maxRecDepth 100000 in
set_option maxHeartbeats 1000000 in
theorem setDigits_any (d : Nat) (hd : d < 18446744073709551616) (p : Int) (hp0 : -500 ≤ p) (hp1 : p ≤ 500) (g : Nat) (w : World) (cs : Array Value) (T : TypeId) (hg : w.heap[g]? = some (.cells cs T (0, 0))) (hs : cs.size = 32) (hz : ∀ j, j < 32 → cs[j]? = some (.int .u8 0)) :
    Calls Tryz.prog 141 #[.slice (some ⟨g, 0, none⟩) 32 32, .int .u64 d, .int .i64 p, .int .i64 (nD d)] w fun e w' => e = .returned (.tuple #[.int .i64 ((nD d : Int) + p), .int .i64 (dig d).length]) ∧ Dg w' g (dig d) ∧ Fr [g] w w' := by
  have hf := Lib.hid (fmt_any d hd g w cs T hg hs hz)
  have h20 := nD_le d hd
  have HLD := Lib.hid (digs_length d)
  obtain ⟨N, hN⟩ : ∃ N, N = nD d := ⟨_, rfl⟩
  rw [← hN] at hf h20 HLD ⊢
  have HD := Lib.hid hN
  clear hN hg hs hz
  obtain ⟨R, hR⟩ : ∃ R, R = (dig d).length := ⟨_, rfl⟩
  rw [← hR]
  have HR := Lib.hid hR; clear hR
  have h32 : decide ((N : Int) ≤ 32) = true := decide_eq_true (by omega)
  go_enter Tryz.func141, Tryz.ntmps141
  go_wp2_with (go_at_call 97; refine hf.out.mono ?_; rintro e w1 ⟨rfl, hdg, hf1⟩; have HDG := Lib.hid hdg; have HF := Lib.hid hf1; clear hdg hf1)
  go_loopw [3] (fun i wr => ∃ k : Nat, k ≤ N ∧ i = .int .i64 k ∧ Hid (trimZ ((digs d).take k) = dig d) ∧ wr = w1) (fun i _ => (RowKit.intOf i).toNat)
  case atStart => exact ⟨N, Nat.le_refl _, rfl, Lib.hid (by rw [List.take_of_length_le (by rw [HLD.out]; exact Nat.le_refl _)]; rfl), rfl⟩
  case round =>
    obtain ⟨k, hk, rfl, H, rfl⟩ := hrel
    cases k with
    | zero =>
      have hnil : dig d = [] := by have := H.out; simpa [trimZ] using this.symm
      have HNIL := Lib.hid hnil
      have hl0 : R = 0 := by rw [HR.out, hnil]; rfl
      have HL0 := Lib.hid hl0
      clear hnil hl0
      go_wp2_with fail
      go_ret2
      rw [HNIL.out, HL0.out]
      exact ⟨rfl, HDG.out.pre ⟨digs d, rfl⟩, HF.out⟩
    | succ k =>
      have hlt : k < (digs d).length := by rw [HLD.out]; omega
      have hc := HDG.out.cell (i := k) hlt
      obtain ⟨c, hcc⟩ : ∃ c, c = (digs d)[k] := ⟨_, rfl⟩
      have hts : (digs d).take (k + 1) = (digs d).take k ++ [c] := by rw [hcc]; exact List.take_succ_eq_append_getElem _
      have HTS := Lib.hid hts
      rw [← hcc] at hc
      by_cases h48 : c = 48
      · have hc2 : wr.cell? ⟨g, k, none⟩ = some (.int .u8 48) := by rw [hc, h48]; rfl
        clear hc hts hlt hcc
        go_wp2_with fail
        go_roundw
        case rel => exact ⟨k, by omega, by go_num, Lib.hid (by have := H.out; rw [HTS.out, h48, trimZ_zero] at this; exact this), trivial⟩
        case measure => simp [RowKit.intOf]; try omega
      · obtain ⟨CI, hCI⟩ : ∃ CI : Int, CI = (c.toNat : Int) := ⟨_, rfl⟩
        have hne : (CI == 48) = false := by
          rw [beq_eq_false_iff_ne, hCI]
          intro h
          exact h48 (UInt8.toNat_inj.1 (by simpa using Int.ofNat.inj h))
        have hc2 : wr.cell? ⟨g, k, none⟩ = some (.int .u8 CI) := by rw [hc, hCI]; rfl
        have hdig : dig d = (digs d).take (k + 1) := by have := H.out; rw [hts, trimZ_other _ _ h48] at this; rw [hts]; exact this.symm
        have HDIG := Lib.hid hdig
        have hln : R = k + 1 := by rw [HR.out, hdig]; simp; omega
        have HLN := Lib.hid hln
        clear hc hts hlt hcc hdig hln hCI
        have H48 := Lib.hid h48; clear h48
        go_wp2_with fail
        go_ret2
        rw [HDIG.out, HLN.out]
        exact ⟨rfl, HDG.out.pre ⟨(digs d).drop (k + 1), (List.take_append_drop _ _).symm⟩, HF.out⟩
set_option maxRecDepth 100000 in
theorem numDigits_any (d : Nat) (hd : d < 18446744073709551616) {B : Nat} {ea : Addr} (w : World) (hG : Gv B ea w) :
    Calls Tryz.prog 96 #[.int .u64 d] w fun e w' => e = .returned (.int .i64 (nD d)) ∧ w' = w := by
  by_cases h : d = 0
  · subst h
    have h1 : ∀ w, Calls Tryz.prog 126 #[.int .u64 0] w fun e w' => e = .returned (.int .i64 0) ∧ w' = w := fun w => by
      have := Tryz.bits_Len64 0 w (by decide) (by decide)
      rw [show Lib.bitLen (0 : Int).toNat = 0 from rfl] at this
      exact this
    have h2 : ∀ w, Calls Tryz.prog 125 #[.int .i64 0] w fun e w' => e = .returned (.int .i64 0) ∧ w' = w := fun w => by
      have := Tryz.internal_strconv_log10Pow2 0 (by decide) w
      exact this
    have H1 := Lib.hid h1
    have H2 := Lib.hid h2
    have hc : w.cell? ⟨1, 0, none⟩ = some (.int .u64 1) := by
      have := hG.pow.cell gPow 0 (by decide)
      exact this
    clear h1 h2
    rw [show nD 0 = 0 from rfl]
    go_enter Tryz.func96, Tryz.ntmps96
    go_wp2_with (first
      | (go_at_call 126; refine (H1.out _).mono ?_; rintro e w1 ⟨rfl, rfl⟩)
      | (go_at_call 125; refine (H2.out _).mono ?_; rintro e w1 ⟨rfl, rfl⟩)
      | (go_at_call 127; refine (Tryz.internal_strconv_bool2_int _ _).mono ?_; rintro e w1 ⟨rfl, rfl⟩))
    go_ret
    exact ⟨rfl, rfl⟩
  · have h1 := Tryz.internal_strconv_numDigits d (by omega) hd w hG.pow
    unfold nD
    rw [if_neg h]
    exact h1
end Go.Proofs.YtaaogjhaokaggaaGreatDoor
