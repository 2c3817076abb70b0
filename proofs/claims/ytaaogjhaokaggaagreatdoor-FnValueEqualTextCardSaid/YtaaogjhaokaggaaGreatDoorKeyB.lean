import Derived.Test.YtaaogjhaokaggaaGreatDoorEscX
import Derived.Test.YtaaogjhaokaggaaGreatDoorGlN
import Derived.Deep.RegionHeld3
import Derived.Deep.RegionWith
import Derived.Shelf.Unicode.DecodeSlow
import Derived.Lib.ValidU
namespace Go.Proofs.YtaaogjhaokaggaaGreatDoor
open Go.RowKit

/-- A set of bytes at the head of block b. -/
def BsAt (w : World) (b : Nat) (f : UInt8 → Bool) : Prop :=
  ∃ cur : Array Value, w.heap[b]? = some (.cells cur 221 (0, 0)) ∧ cur.size = 256 ∧ ∀ c : UInt8, cur[c.toNat]? = some (.bool (f c))
theorem BsAt.fr {S : List Nat} {w w' : World} {b : Nat} {f : UInt8 → Bool} (h : BsAt w b f) (k : Fr S w w') (hb : b ∉ S) : BsAt w' b f := by
  obtain ⟨cur, h1, h2⟩ := h; exact ⟨cur, k.blk h1 hb, h2⟩
theorem BsAt.cell {w : World} {b : Nat} {f : UInt8 → Bool} (h : BsAt w b f) (c : UInt8) : w.cell? ⟨b, c.toNat, none⟩ = some (.bool (f c)) := by
  obtain ⟨cur, h1, h2, h3⟩ := h; rw [cell_of_row w b _ cur 221 _ h1, h3 c]
theorem BsAt.free {w : World} {b : Nat} {f : UInt8 → Bool} (h : BsAt w b f) (j : Nat) : w.frozen? ⟨b, j, none⟩ = false := by
  obtain ⟨cur, h1, _⟩ := h; exact frozen_of_row w b j cur 221 h1
theorem BsAt.congr {w : World} {b : Nat} {f g : UInt8 → Bool} (h : BsAt w b f) (e : ∀ c, f c = g c) : BsAt w b g := by
  rwa [show g = f from (funext e).symm]
theorem BsAt.set {w : World} {b : Nat} {f : UInt8 → Bool} (h : BsAt w b f) (c : UInt8) : BsAt (w.setCell ⟨b, c.toNat, none⟩ (.bool true)) b (fun d => f d || d == c) := by
  obtain ⟨cur, h1, h2, h3⟩ := h
  refine ⟨_, heap_setCell_same w b c.toNat cur 221 (.bool true) h1, by simpa using h2, fun d => ?_⟩
  have := c.toNat_lt
  rw [Array.getElem?_setIfInBounds, h3 d]
  by_cases e : c.toNat = d.toNat
  · have e' : c = d := UInt8.toNat_inj.1 e
    subst e'
    rw [if_pos rfl, if_pos (by omega)]; simp
  · have e' : (d == c) = false := by simp; intro h; exact e (by rw [h])
    show _ = some (Value.bool (f d || d == c))
    rw [if_neg e, e', Bool.or_false]

def bz : Array Value := Array.replicate 256 (.bool false)
theorem info221 : (Tryz.prog.info? 221).bind (·.zero) = some (.agg bz) := by kernel_rfl
theorem size221 : (Tryz.prog.info? 221).map (·.size) = some 256 := by kernel_rfl
theorem BsAt.new {w : World} {b : Nat} (h : w.heap[b]? = some (.cells (Value.agg bz).cells 221 (0, 0))) : BsAt w b (fun _ => false) :=
  ⟨bz, h, by simp [bz], fun c => by have := c.toNat_lt; rw [bz, Array.getElem?_replicate, if_pos (by omega)]⟩

theorem bset_set (b : Nat) (f : UInt8 → Bool) (c : UInt8) (w : World) (h : BsAt w b f) :
    Calls Tryz.prog 183 #[.pointer (some ⟨b, 0, none⟩), .int .u8 (c.toNat : Int)] w fun e w' => e = .returned (.tuple #[]) ∧ w' = w.setCell ⟨b, c.toNat, none⟩ (.bool true) := by
  have hc := h.cell c
  have hz := h.free c.toNat
  have hlt : (c.toNat : Int) < 256 := by have := c.toNat_lt; omega
  go_enter Tryz.func183, Tryz.ntmps183
  go_wp2
  go_end0
  exact ⟨rfl, rfl⟩

theorem bset_get (b : Nat) (f : UInt8 → Bool) (c : UInt8) (w : World) (h : BsAt w b f) :
    Calls Tryz.prog 124 #[.pointer (some ⟨b, 0, none⟩), .int .u8 (c.toNat : Int)] w fun e w' => e = .returned (.bool (f c)) ∧ w' = w := by
  have hc := h.cell c
  have hlt : (c.toNat : Int) < 256 := by have := c.toNat_lt; omega
  go_enter Tryz.func124, Tryz.ntmps124
  go_wp2
  go_ret
  exact ⟨rfl, rfl⟩

set_option maxHeartbeats 400000 in
/-- newByteSetRange(0, 31). -/
theorem bset_range (w : World) :
    Calls Tryz.prog 157 #[.int .u8 0, .int .u8 31] w fun e w' => e = .returned (.pointer (some ⟨w.heap.size, 0, none⟩)) ∧ BsAt w' w.heap.size (fun c => decide (c.toNat < 32)) ∧ Fr [] w w' := by
  go_enter Tryz.func157, Tryz.ntmps157
  go_wp2_with (with_reducible refine wpAlloc (o := ⟨some 5, _, _, _, _, _⟩) w rfl 221 rfl _ info221 ?_; intro w1 hh1 hf1 hz1)
  go_loopw [6] (fun i wr => ∃ k : Nat, k ≤ 32 ∧ i = .int .u8 k ∧ BsAt wr w.heap.size (fun c => decide (c.toNat < k)) ∧ Fr [] w wr) (fun i _ => 32 - (intOf i).toNat)
  case atStart => exact ⟨0, by omega, rfl, (BsAt.new hh1).congr (fun c => by simp), hf1⟩
  case round =>
    obtain ⟨k, hk, rfl, hb, hf⟩ := hrel
    by_cases hlt : k < 32
    · obtain ⟨c, hc⟩ : ∃ c : UInt8, c.toNat = k := ⟨UInt8.ofNat k, by simp; omega⟩
      have hset := bset_set w.heap.size _ c wr hb
      rw [hc] at hset
      have hnew : BsAt (wr.setCell ⟨w.heap.size, k, none⟩ (.bool true)) w.heap.size (fun c => decide (c.toNat < k + 1)) := by
        have := (hb.set c).congr (g := fun c => decide (c.toNat < k + 1)) (fun d => by
          rw [Bool.eq_iff_iff]
          simp only [Bool.or_eq_true, decide_eq_true_eq, beq_iff_eq]
          constructor
          · rintro (h | h)
            · omega
            · subst h; omega
          · intro h
            by_cases e : d.toNat < k
            · exact .inl e
            · exact .inr (UInt8.toNat_inj.1 (by omega)))
        rw [hc] at this
        exact this
      have HN := Lib.hid hnew; clear hnew hc
      have HS := Lib.hid hset; clear hset hb
      go_wp2_with (go_at_call 183; refine HS.out.mono ?_; rintro e w2 ⟨rfl, rfl⟩)
      go_roundw
      case rel => exact ⟨k + 1, by omega, by go_num, HN.out, hf.setCell (.inr (Nat.le_refl _)) _⟩
      case measure => simp [intOf]; omega
    · have : k = 32 := by omega
      subst this
      have HB := Lib.hid hb; clear hb
      go_wp2
      go_ret
      exact ⟨rfl, HB.out, hf⟩

set_option maxHeartbeats 400000 in
/-- newByteSet of one byte. -/
theorem bset_one (c : UInt8) (w : World) :
    Calls Tryz.prog 159 #[.string ⟨#[c]⟩] w fun e w' => e = .returned (.pointer (some ⟨w.heap.size, 0, none⟩)) ∧ BsAt w' w.heap.size (fun d => d == c) ∧ Fr [] w w' := by
  have hix : ∀ wx, (Instr.index 9 (.string ⟨#[c]⟩) (.int .i64 0)).run Tryz.prog wx = .ok (.int .u8 (c.toNat : Int)) wx := fun wx => by
    simp [go_sem, Tryz.underlying9]
    rfl
  have hsz : (⟨#[c]⟩ : ByteArray).size = 1 := rfl
  obtain ⟨V, hV⟩ : ∃ V : ByteArray, V = ⟨#[c]⟩ := ⟨_, rfl⟩
  rw [← hV] at hix hsz ⊢
  clear hV
  go_enter Tryz.func159, Tryz.ntmps159
  go_wp2_with (with_reducible refine wpAlloc (o := ⟨some 3, _, _, _, _, _⟩) w rfl 221 rfl _ info221 ?_; intro w1 hh1 hf1 hz1)
  have hb := (BsAt.new hh1)
  have HB := Lib.hid hb; clear hb hh1
  refine wp_loop_rounds 2 ?_
  rw [rounds_succ]
  go_wp2_with (go_at_call 183; refine (bset_set w.heap.size _ c w1 HB.out).mono ?_; rintro e w2 ⟨rfl, rfl⟩)
  rw [rounds_succ]
  go_wp2
  go_ret
  exact ⟨rfl, (HB.out.set c).congr (fun d => by simp), hf1.setCell (.inr (Nat.le_refl _)) _⟩
theorem bsCells_one {w : World} {b : Nat} {f : UInt8 → Bool} {cur : Array Value} (_ : w.heap[b]? = some (.cells cur 221 (0, 0))) (h2 : cur.size = 256) (h3 : ∀ c : UInt8, cur[c.toNat]? = some (.bool (f c))) : cur.all (·.oneCell') = true := by
  rw [Array.all_eq_true]
  intro i hi
  obtain ⟨c, hc⟩ : ∃ c : UInt8, c.toNat = i := ⟨UInt8.ofNat i, by simp; omega⟩
  have := h3 c
  rw [hc, Array.getElem?_eq_getElem hi] at this
  rw [Option.some.inj this]
  rfl

set_option maxRecDepth 100000 in
set_option maxHeartbeats 1000000 in
theorem bset_union (a b : Nat) (f g : UInt8 → Bool) (w : World) (ha : BsAt w a f) (hb : BsAt w b g) :
    Calls Tryz.prog 158 #[.pointer (some ⟨a, 0, none⟩), .pointer (some ⟨b, 0, none⟩)] w fun e w' => e = .returned (.pointer (some ⟨w.heap.size, 0, none⟩)) ∧ BsAt w' w.heap.size (fun c => f c || g c) ∧ Fr [] w w' := by
  obtain ⟨cur, h1, h2, h3⟩ := ha
  have hone := bsCells_one h1 h2 h3
  have hbl : b < w.heap.size := by obtain ⟨_, k1, _⟩ := hb; exact (Array.getElem?_eq_some_iff.1 k1).1
  have hs : (Tryz.prog.info? 221).map (·.size) = some cur.size := by rw [h2]; exact size221
  have hold : (Value.agg bz).cells.size = cur.size := by rw [h2]; simp [bz, Value.cells]
  have H1 := Lib.hid h1
  have H3 := Lib.hid h3; clear h3
  have HB := Lib.hid hb; clear hb
  go_enter Tryz.func158, Tryz.ntmps158
  go_upto_region 2 with (first
    | (with_reducible refine wpList_load_row (o := ⟨some 9, _, _, _, _, _⟩) rfl 221 _ rfl a rfl 221 cur _ _ h1 Tryz.underlying221 rfl hs ?_; clear h1)
    | (with_reducible refine wpAlloc (o := ⟨some 5, _, _, _, _, _⟩) w rfl 221 rfl _ info221 ?_; intro w1 hh1 hf1 hz1)
    | (with_reducible refine wpList_store_row (w := w1) (o := ⟨none, _, _, _, _, _⟩) rfl 221 (.tmp 5) (.tmp 9) rfl w.heap.size cur rfl rfl 221 _ hh1 hs hold hone ?_))
  have hx := setRow_heap w1 w.heap.size _ cur 221 (0, 0) hh1
  have hfx : Fr [] w (w1.setRow w.heap.size cur) := hf1.step (T := [w.heap.size]) ⟨rfl, rfl, rfl, by simp, fun k _ hs => setRow_other w1 w.heap.size k _ (by simpa using hs)⟩ (by simp)
  generalize w1.setRow w.heap.size cur = wx at hx hfx ⊢
  have hbx : BsAt wx w.heap.size f := ⟨cur, hx, h2, H3.out⟩
  have HBX := Lib.hid hbx; clear hbx hx hh1 hold hs h2 hone hz1
  go_wp2
  go_loopw [6, 10] (fun _ i wr => ∃ k : Nat, k ≤ 256 ∧ i = .int .i64 k ∧ BsAt wr w.heap.size (fun c => if c.toNat < k then f c || g c else f c) ∧ Fr [] w wr) (fun _ i _ => 256 - (intOf i).toNat)
  case atStart => exact ⟨0, by omega, rfl, HBX.out.congr (fun c => by simp), hfx⟩
  case round =>
    obtain ⟨k, hk, rfl, hr, hf⟩ := hrel
    by_cases hlt : k < 256
    · obtain ⟨c, hc⟩ : ∃ c : UInt8, c.toNat = k := ⟨UInt8.ofNat k, by simp; omega⟩
      have c1 := hr.cell c
      have c2 := (HB.out.fr hf (by simp)).cell c
      have z1 := hr.free k
      rw [hc] at c1 c2
      rw [if_neg (by omega)] at c1
      have hbk : b ≠ w.heap.size := by omega
      have hnext : ∀ v : Bool, v = (f c || g c) → BsAt (wr.setCell ⟨w.heap.size, k, none⟩ (.bool v)) w.heap.size (fun c => if c.toNat < k + 1 then f c || g c else f c) := by
        intro v hv
        obtain ⟨cu, k1, k2, k3⟩ := hr
        refine ⟨_, heap_setCell_same wr w.heap.size k cu 221 (.bool v) k1, by simpa using k2, fun d => ?_⟩
        rw [Array.getElem?_setIfInBounds, k3 d]
        dsimp only
        by_cases e : k = d.toNat
        · have e' : c = d := UInt8.toNat_inj.1 (by omega)
          subst e'
          rw [if_pos e, if_pos (by omega), if_pos (by omega), hv]
        · rw [if_neg e]
          by_cases e2 : d.toNat < k
          · rw [if_pos e2, if_pos (by omega)]
          · rw [if_neg e2, if_neg (by omega)]
      have HN := Lib.hid hnext; clear hnext hr hc
      cases hfc : f c
      · rw [hfc] at c1
        obtain ⟨v, hv⟩ : ∃ v, v = g c := ⟨_, rfl⟩
        rw [← hv] at c2
        have HV : Hid (v = (f c || g c)) := Lib.hid (by rw [hfc, hv]; rfl)
        clear hv hfc
        go_wp2
        go_roundw
        case rel => exact ⟨k + 1, by omega, by go_num, HN.out _ HV.out, hf.setCell (.inr (Nat.le_refl _)) _⟩
        case measure => simp [intOf]; omega
      · rw [hfc] at c1
        have HV : Hid (true = (f c || g c)) := Lib.hid (by rw [hfc]; rfl)
        clear hfc
        go_wp2
        go_roundw
        case rel => exact ⟨k + 1, by omega, by go_num, HN.out _ HV.out, hf.setCell (.inr (Nat.le_refl _)) _⟩
        case measure => simp [intOf]; omega
    · have : k = 256 := by omega
      subst this
      have hr' := hr.congr (g := fun c => f c || g c) (fun c => by rw [if_pos c.toNat_lt])
      have HR := Lib.hid hr'; clear hr hr'
      go_wp2
      go_ret
      exact ⟨rfl, HR.out, hf⟩

/-- Not printable. -/
def odd (c : UInt8) : Bool := decide (c.toNat < 32) || c == 127

set_option maxHeartbeats 400000 in
theorem nonPrintable_any (w : World) :
    Calls Tryz.prog 123 #[] w fun e w' => ∃ b, e = .returned (.pointer (some ⟨b, 0, none⟩)) ∧ BsAt w' b odd ∧ Fr [] w w' ∧ w.heap.size ≤ b := by
  go_enter Tryz.func123, Tryz.ntmps123
  go_wp2_with (first
    | (go_at_call 157; refine (bset_range _).mono ?_; rintro e w1 ⟨rfl, hb1, hf1⟩)
    | (go_at_call 159; refine (bset_one 127 _).mono ?_; rintro e w2 ⟨rfl, hb2, hf2⟩)
    | (go_at_call 158; refine (bset_union _ _ _ _ _ (hb1.fr hf2 (by simp)) hb2).mono ?_; rintro e w3 ⟨rfl, hb3, hf3⟩))
  go_ret
  exact ⟨_, rfl, hb3, (hf1.trans hf2).trans hf3, Nat.le_trans hf1.size hf2.size⟩
end Go.Proofs.YtaaogjhaokaggaaGreatDoor
namespace Go.Proofs.YtaaogjhaokaggaaGreatDoor
open Go.RowKit

/-- unicode/utf8.ValidString. -/
def ValidSaid : Prop := ∀ (s : ByteArray) (w : World), s.size ≤ 9223372036854775807 → Lib.Utf8Tabs 2 3 w →
  Calls Tryz.prog 99 #[.string s] w fun e w' => e = .returned (.bool (Lib.validD s.data.toList)) ∧ Below w.heap.size w w'

/-- May a text be a key? -/
def keyOk (l : List UInt8) : Bool := !l.isEmpty && Lib.validD l && l.all (fun c => !odd c) && !(l.getLast? == some 92)

set_option maxRecDepth 100000 in
set_option maxHeartbeats 1000000 in
theorem validKey_any (hV : ValidSaid) {B : Nat} {ea : Addr} (s : ByteArray) (w : World) (hs : s.size ≤ 1000000) (hG : Gv B ea w) :
    Calls Tryz.prog 91 #[.string s] w fun e w' => e = .returned (.bool (keyOk s.data.toList)) ∧ Fr [] w w' := by
  have hV' := hV s w (by omega) hG.utf8
  have HV := Lib.hid hV'; clear hV' hG
  by_cases h0 : s.data.toList = []
  · have h1 : s.toList = [] := by rw [ByteArray.toList_eq]; exact h0
    have h2 : (!s.toList.isEmpty) = false := by rw [h1]; rfl
    have h3 : (s.toList.isEmpty) = true := by rw [h1]; rfl
    have hr : keyOk s.data.toList = false := by simp [keyOk, h0]
    rw [hr]
    clear h0 hr
    go_enter Tryz.func91, Tryz.ntmps91
    go_wp2
    go_ret
    exact ⟨rfl, Fr.refl _ _⟩
  · have h1 : s.toList ≠ [] := by rw [ByteArray.toList_eq]; exact h0
    have h3 : (s.toList.isEmpty) = false := by rw [List.isEmpty_eq_false_iff]; exact h1
    have hsz : 1 ≤ s.size := by
      have e0 : s.data.toList.length = s.size := by simp
      have := List.length_pos_iff.2 h0
      omega
    obtain ⟨v, hv⟩ : ∃ v, v = Lib.validD s.data.toList := ⟨_, rfl⟩
    rw [← hv] at HV
    have HK : Hid (keyOk s.data.toList = (v && s.data.toList.all (fun c => !odd c) && !(s.data.toList.getLast? == some 92))) := Lib.hid (by
      rw [keyOk, ← hv, List.isEmpty_eq_false_iff.2 h0]; simp)
    obtain ⟨R, hR⟩ : ∃ R, R = keyOk s.data.toList := ⟨_, rfl⟩
    rw [← hR] at HK ⊢
    clear hR hv h0 h1
    cases v
    · have HR : Hid (R = false) := Lib.hid (by rw [HK.out]; simp)
      go_enter Tryz.func91, Tryz.ntmps91
      go_wp2_with (go_at_call 99; refine HV.out.mono ?_; rintro e w1 ⟨rfl, hb1⟩)
      go_ret
      exact ⟨ret_bool HR.out.symm, Fr.of_below hb1⟩
    · go_enter Tryz.func91, Tryz.ntmps91
      go_wp2_with (go_at_call 99; refine HV.out.mono ?_; rintro e w1 ⟨rfl, hb1⟩; have hf1 := Fr.of_below hb1; clear hb1)
      go_loopw [3] (fun i wr => ∃ k : Nat, k ≤ s.size ∧ i = .int .i64 k ∧ Hid (∀ c, c ∈ s.data.toList.take k → odd c = false) ∧ Fr [] w wr) (fun i _ => s.size - (intOf i).toNat)
      case atStart => exact ⟨0, by omega, rfl, Lib.hid (by simp), hf1⟩
      case round =>
        obtain ⟨k, hk, rfl, hno, hf⟩ := hrel
        by_cases hlt : k < s.size
        · obtain ⟨o, ho⟩ : ∃ o, o = odd s[k] := ⟨_, rfl⟩
          have hget : ∀ b w, BsAt w b odd → Calls Tryz.prog 124 #[.pointer (some ⟨b, 0, none⟩), .int .u8 (s[k].toNat : Int)] w fun e w' => e = .returned (.bool o) ∧ w' = w := fun b w h => by rw [ho]; exact bset_get b odd s[k] w h
          have hts := take_succ s k hlt
          have hmem : s[k] ∈ s.data.toList := by
            have : s.data.toList[k]? = some s[k] := by rw [Array.getElem?_toList]; exact Array.getElem?_eq_getElem hlt
            exact List.mem_of_getElem? this
          have HO : Hid (o = odd s[k] ∧ s.data.toList.take (k + 1) = s.data.toList.take k ++ [s[k]] ∧ s[k] ∈ s.data.toList) := Lib.hid ⟨ho, hts, hmem⟩
          have HG := Lib.hid hget
          clear hts ho hmem hget
          cases o
          · go_wp2_with fail
            go_region_with (first | (go_at_call 123; refine (nonPrintable_any _).mono ?_; rintro e w2 ⟨b, rfl, hb2, hf2, hz2⟩) | (go_at_call 124; refine (HG.out _ _ hb2).mono ?_; rintro e w3 ⟨rfl, rfl⟩))
            all_goals
              go_wp2
              go_roundw
              case rel =>
                refine ⟨k + 1, by omega, by go_num, Lib.hid ?_, hf.drew.trans hf2⟩
                intro c hc
                rw [HO.out.2.1] at hc
                rcases List.mem_append.1 hc with h | h
                · exact hno.out c h
                · simp at h; rw [h]; exact HO.out.1.symm
              case measure => simp [intOf]; omega
          · have HR : Hid (R = false) := Lib.hid (by
              rw [HK.out]
              have : s.data.toList.all (fun c => !odd c) = false := by
                rw [List.all_eq_false]
                exact ⟨s[k], HO.out.2.2, by rw [← HO.out.1]; decide⟩
              rw [this]; simp)
            go_wp2_with fail
            go_region_with (first | (go_at_call 123; refine (nonPrintable_any _).mono ?_; rintro e w2 ⟨b, rfl, hb2, hf2, hz2⟩) | (go_at_call 124; refine (HG.out _ _ hb2).mono ?_; rintro e w3 ⟨rfl, rfl⟩))
            all_goals
              go_wp2
              go_ret
              exact ⟨ret_bool HR.out.symm, hf.drew.trans hf2⟩
        · have : k = s.size := by omega
          subst this
          have e0 : s.data.toList.length = s.size := by simp
          have hall : s.data.toList.all (fun c => !odd c) = true := by
            rw [List.all_eq_true]
            intro c hc
            have := hno.out c (by rw [List.take_of_length_le (Nat.le_of_eq e0)]; exact hc)
            rw [this]; rfl
          have hlast : s.data.toList.getLast? = some s[s.size - 1] := by
            rw [List.getLast?_eq_getElem?, e0, Array.getElem?_toList]
            exact Array.getElem?_eq_getElem (by show s.size - 1 < s.size; omega)
          obtain ⟨x, hx⟩ : ∃ x : UInt8, x = s[s.size - 1] := ⟨_, rfl⟩
          have HL : Hid (R = !(x == 92)) := Lib.hid (by rw [HK.out, hall, hlast, ← hx]; rfl)
          have hix : ∀ wx, (Instr.index 9 (.string s) (.int .i64 ((s.size : Int) - 1))).run Tryz.prog wx = .ok (.int .u8 (x.toNat : Int)) wx := fun wx => by
            rw [show ((s.size : Int) - 1) = ((s.size - 1 : Nat) : Int) by omega]
            have hlt' : ((s.size - 1 : Nat) : Int) < (s.size : Int) := by omega
            simp [go_sem, Tryz.underlying9, hlt', hx]
          clear hall hlast hx e0
          by_cases h92 : x = 92
          · have hb : ((x.toNat : Int) == 92) = true := by rw [h92]; rfl
            have HR : Hid (R = false) := Lib.hid (by rw [HL.out, h92]; rfl)
            clear h92
            go_wp2
            go_ret
            exact ⟨ret_bool HR.out.symm, hf⟩
          · have hb : ((x.toNat : Int) == 92) = false := by
              rw [beq_eq_false_iff_ne]
              intro h
              exact h92 (UInt8.toNat_inj.1 (by simp only [UInt8.toNat_ofNat]; omega))
            have HR : Hid (R = true) := Lib.hid (by rw [HL.out]; simp [h92])
            clear h92
            go_wp2
            go_ret
            exact ⟨ret_bool HR.out.symm, hf⟩
end Go.Proofs.YtaaogjhaokaggaaGreatDoor
