import Derived.Test.YtaaogjhaokaggaaGreatDoorBset
import Derived.Test.YtaaogjhaokaggaaGreatDoorGl
import Derived.Deep.RegionHeld3
import Derived.Deep.RegionWith
import Derived.Shelf.Unicode.DecodeSlow
import Derived.Lib.ValidU
namespace Go.Proofs.YtaaogjhaokaggaaGreatDoor
open Go.RowKit

/-- unicode/utf8.ValidString. -/
def ValidSaid : Prop := ∀ (s : ByteArray) (w : World), s.size ≤ 9223372036854775807 → Lib.Utf8Tabs 2 3 w →
  Calls Tryz.prog 99 #[.string s] w fun e w' => e = .returned (.bool (Lib.validD s.data.toList)) ∧ Below w.heap.size w w'

/-- May a text be a key? -/
def keyOk (l : List UInt8) : Bool := !l.isEmpty && Lib.validD l && l.all (fun c => !odd c) && !(l.getLast? == some 92)

set_option maxRecDepth 100000 in
set_option maxHeartbeats 1000000 in
theorem validKey_any (hV : ValidSaid) {B : Nat} {ea : Addr} (s : ByteArray) (w : World) (hs : s.size ≤ 1000000) (hG : Gv B ea w) :
    Calls Tryz.prog 91 #[.string s] w fun e w' => e = .returned (.bool (keyOk s.data.toList)) ∧ Fr [] w w' := by
  have hV' := hV s w (by omega) hG.utf8
  have HV := Lib.hid hV'; clear hV' hG
  by_cases h0 : s.data.toList = []
  · have h1 : s.toList = [] := by rw [ByteArray.toList_eq]; exact h0
    have h2 : (!s.toList.isEmpty) = false := by rw [h1]; rfl
    have h3 : (s.toList.isEmpty) = true := by rw [h1]; rfl
    have hr : keyOk s.data.toList = false := by simp [keyOk, h0]
    rw [hr]
    clear h0 hr
    go_enter Tryz.func91, Tryz.ntmps91
    go_wp2
    go_ret
    exact ⟨rfl, Fr.refl _ _⟩
  · have h1 : s.toList ≠ [] := by rw [ByteArray.toList_eq]; exact h0
    have h3 : (s.toList.isEmpty) = false := by rw [List.isEmpty_eq_false_iff]; exact h1
    have hsz : 1 ≤ s.size := by
      have e0 : s.data.toList.length = s.size := by simp
      have := List.length_pos_iff.2 h0
      omega
    obtain ⟨v, hv⟩ : ∃ v, v = Lib.validD s.data.toList := ⟨_, rfl⟩
    rw [← hv] at HV
    have HK : Hid (keyOk s.data.toList = (v && s.data.toList.all (fun c => !odd c) && !(s.data.toList.getLast? == some 92))) := Lib.hid (by
      rw [keyOk, ← hv, List.isEmpty_eq_false_iff.2 h0]; simp)
    obtain ⟨R, hR⟩ : ∃ R, R = keyOk s.data.toList := ⟨_, rfl⟩
    rw [← hR] at HK ⊢
    clear hR hv h0 h1
    cases v
    · have HR : Hid (R = false) := Lib.hid (by rw [HK.out]; simp)
      go_enter Tryz.func91, Tryz.ntmps91
      go_wp2_with (go_at_call 99; refine HV.out.mono ?_; rintro e w1 ⟨rfl, hb1⟩)
      go_ret
      exact ⟨ret_bool HR.out.symm, Fr.of_below hb1⟩
    · go_enter Tryz.func91, Tryz.ntmps91
      go_wp2_with (go_at_call 99; refine HV.out.mono ?_; rintro e w1 ⟨rfl, hb1⟩; have hf1 := Fr.of_below hb1; clear hb1)
      go_loopw [3] (fun i wr => ∃ k : Nat, k ≤ s.size ∧ i = .int .i64 k ∧ Hid (∀ c, c ∈ s.data.toList.take k → odd c = false) ∧ Fr [] w wr) (fun i _ => s.size - (intOf i).toNat)
      case atStart => exact ⟨0, by omega, rfl, Lib.hid (by simp), hf1⟩
      case round =>
        obtain ⟨k, hk, rfl, hno, hf⟩ := hrel
        by_cases hlt : k < s.size
        · obtain ⟨o, ho⟩ : ∃ o, o = odd s[k] := ⟨_, rfl⟩
          have hget : ∀ b w, BsAt w b odd → Calls Tryz.prog 124 #[.pointer (some ⟨b, 0, none⟩), .int .u8 (s[k].toNat : Int)] w fun e w' => e = .returned (.bool o) ∧ w' = w := fun b w h => by rw [ho]; exact bset_get b odd s[k] w h
          have hts := take_succ s k hlt
          have hmem : s[k] ∈ s.data.toList := by
            have : s.data.toList[k]? = some s[k] := by rw [Array.getElem?_toList]; exact Array.getElem?_eq_getElem hlt
            exact List.mem_of_getElem? this
          have HO : Hid (o = odd s[k] ∧ s.data.toList.take (k + 1) = s.data.toList.take k ++ [s[k]] ∧ s[k] ∈ s.data.toList) := Lib.hid ⟨ho, hts, hmem⟩
          have HG := Lib.hid hget
          clear hts ho hmem hget
          cases o
          · go_wp2_with fail
            go_region_with (first | (go_at_call 123; refine (nonPrintable_any _).mono ?_; rintro e w2 ⟨b, rfl, hb2, hf2, hz2⟩) | (go_at_call 124; refine (HG.out _ _ hb2).mono ?_; rintro e w3 ⟨rfl, rfl⟩))
            all_goals
              go_wp2
              go_roundw
              case rel =>
                refine ⟨k + 1, by omega, by go_num, Lib.hid ?_, hf.drew.trans hf2⟩
                intro c hc
                rw [HO.out.2.1] at hc
                rcases List.mem_append.1 hc with h | h
                · exact hno.out c h
                · simp at h; rw [h]; exact HO.out.1.symm
              case measure => simp [intOf]; omega
          · have HR : Hid (R = false) := Lib.hid (by
              rw [HK.out]
              have : s.data.toList.all (fun c => !odd c) = false := by
                rw [List.all_eq_false]
                exact ⟨s[k], HO.out.2.2, by rw [← HO.out.1]; decide⟩
              rw [this]; simp)
            go_wp2_with fail
            go_region_with (first | (go_at_call 123; refine (nonPrintable_any _).mono ?_; rintro e w2 ⟨b, rfl, hb2, hf2, hz2⟩) | (go_at_call 124; refine (HG.out _ _ hb2).mono ?_; rintro e w3 ⟨rfl, rfl⟩))
            all_goals
              go_wp2
              go_ret
              exact ⟨ret_bool HR.out.symm, hf.drew.trans hf2⟩
        · have : k = s.size := by omega
          subst this
          have e0 : s.data.toList.length = s.size := by simp
          have hall : s.data.toList.all (fun c => !odd c) = true := by
            rw [List.all_eq_true]
            intro c hc
            have := hno.out c (by rw [List.take_of_length_le (Nat.le_of_eq e0)]; exact hc)
            rw [this]; rfl
          have hlast : s.data.toList.getLast? = some s[s.size - 1] := by
            rw [List.getLast?_eq_getElem?, e0, Array.getElem?_toList]
            exact Array.getElem?_eq_getElem (by show s.size - 1 < s.size; omega)
          obtain ⟨x, hx⟩ : ∃ x : UInt8, x = s[s.size - 1] := ⟨_, rfl⟩
          have HL : Hid (R = !(x == 92)) := Lib.hid (by rw [HK.out, hall, hlast, ← hx]; rfl)
          have hix : ∀ wx, (Instr.index 9 (.string s) (.int .i64 ((s.size : Int) - 1))).run Tryz.prog wx = .ok (.int .u8 (x.toNat : Int)) wx := fun wx => by
            rw [show ((s.size : Int) - 1) = ((s.size - 1 : Nat) : Int) by omega]
            have hlt' : ((s.size - 1 : Nat) : Int) < (s.size : Int) := by omega
            simp [go_sem, Tryz.underlying9, hlt', hx]
          clear hall hlast hx e0
          by_cases h92 : x = 92
          · have hb : ((x.toNat : Int) == 92) = true := by rw [h92]; rfl
            have HR : Hid (R = false) := Lib.hid (by rw [HL.out, h92]; rfl)
            clear h92
            go_wp2
            go_ret
            exact ⟨ret_bool HR.out.symm, hf⟩
          · have hb : ((x.toNat : Int) == 92) = false := by
              rw [beq_eq_false_iff_ne]
              intro h
              exact h92 (UInt8.toNat_inj.1 (by simp only [UInt8.toNat_ofNat]; omega))
            have HR : Hid (R = true) := Lib.hid (by rw [HL.out]; simp [h92])
            clear h92
            go_wp2
            go_ret
            exact ⟨ret_bool HR.out.symm, hf⟩
end Go.Proofs.YtaaogjhaokaggaaGreatDoor
