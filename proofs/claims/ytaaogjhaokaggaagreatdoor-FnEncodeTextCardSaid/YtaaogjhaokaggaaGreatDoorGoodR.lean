import Derived.Test.YtaaogjhaokaggaaGreatDoorUtfX
import Derived.Test.YtaaogjhaokaggaaGreatDoorKeyB
import Derived.Test.YtaaogjhaokaggaaGreatDoorLinF
import Derived.Test.YtaaogjhaokaggaaGreatDoorEachC
import Derived.Test.YtaaogjhaokaggaaGreatDoorEachY
import Derived.Deep.RegionWith
namespace Go.Proofs.YtaaogjhaokaggaaGreatDoor
open Go.RowKit

theorem odd_any (c : UInt8) (w : World) : Calls Tryz.prog 53 #[.int .u8 (c.toNat : Int)] w fun e w' => e = .returned (.bool (odd c)) ∧ w' = w := by
  by_cases h1 : c.toNat < 32
  · have hi : (c.toNat : Int) < 32 := by omega
    have hr : odd c = true := by unfold odd; rw [decide_eq_true h1]; rfl
    rw [hr]; clear hr h1
    go_enter Tryz.func53, Tryz.ntmps53
    go_wp2_with fail
    go_ret
    exact ⟨rfl, rfl⟩
  · have hi : (32 : Int) ≤ (c.toNat : Int) := by omega
    by_cases h2 : c = 127
    · subst h2
      go_enter Tryz.func53, Tryz.ntmps53
      go_wp2_with fail
      go_ret
      exact ⟨rfl, rfl⟩
    · have hb : ((c.toNat : Int) == 127) = false := by
        rw [beq_eq_false_iff_ne]
        intro h
        exact h2 (UInt8.toNat_inj.1 (by simp only [UInt8.toNat_ofNat]; omega))
      have hr : odd c = false := by
        unfold odd; rw [decide_eq_false h1, beq_eq_false_iff_ne.2 h2]; rfl
      rw [hr]
      have hd : decide ((c.toNat : Int) < 32) = false := decide_eq_false (by omega)
      clear hr h1 h2
      go_enter Tryz.func53, Tryz.ntmps53
      go_wp2_with fail
      go_ret
      exact ⟨rfl, rfl⟩

set_option maxRecDepth 100000 in
set_option maxHeartbeats 1000000 in
theorem keyRight_any (s : ByteArray) (hs : s.size ≤ 1000000000) (w : World) :
    Calls Tryz.prog 29 #[.string s] w fun e w' => e = .returned (.bool (keyOk s.data.toList)) ∧ w' = w := by
  obtain ⟨R, hR⟩ : ∃ R, R = keyOk s.data.toList := ⟨_, rfl⟩
  rw [← hR]
  have HR := Lib.hid hR; clear hR
  have HU := Lib.hid (fun w => specUtf8_any s hs w)
  have e0 : s.data.toList.length = s.size := by simp
  have HL := Lib.hid e0; clear e0
  go_enter Tryz.func29, Tryz.ntmps29
  go_wp2_with fail
  go_loopw [3] (fun i wr => ∃ k : Nat, k ≤ s.size ∧ i = .int .i64 k ∧ Hid (∀ c, c ∈ s.data.toList.take k → odd c = false) ∧ wr = w) (fun i _ => s.size - (intOf i).toNat)
  case atStart => exact ⟨0, by omega, rfl, Lib.hid (by simp), rfl⟩
  case round =>
    obtain ⟨k, hk, rfl, hno, rfl⟩ := hrel
    by_cases hlt : k < s.size
    · obtain ⟨o, ho⟩ : ∃ o, o = odd s[k] := ⟨_, rfl⟩
      have hget := fun w => odd_any s[k] w
      rw [← ho] at hget
      have hts := take_succ s k hlt
      have hmem : s[k] ∈ s.data.toList := by
        have : s.data.toList[k]? = some s[k] := by rw [Array.getElem?_toList]; exact Array.getElem?_eq_getElem hlt
        exact List.mem_of_getElem? this
      have HO : Hid (o = odd s[k] ∧ s.data.toList.take (k + 1) = s.data.toList.take k ++ [s[k]] ∧ s[k] ∈ s.data.toList) := Lib.hid ⟨ho, hts, hmem⟩
      have HG := Lib.hid hget
      clear hts ho hmem hget
      cases o
      · go_wp2_with (go_at_call 53; refine (HG.out _).mono ?_; rintro e w3 ⟨rfl, rfl⟩)
        go_roundw
        case rel =>
          refine ⟨k + 1, by omega, by go_num, Lib.hid ?_, trivial⟩
          intro c hc
          rw [HO.out.2.1] at hc
          rcases List.mem_append.1 hc with h | h
          · exact hno.out c h
          · simp at h; rw [h]; exact HO.out.1.symm
        case measure => simp [intOf]; omega
      · have HRR : Hid (R = false) := Lib.hid (by
          rw [HR.out]
          have : s.data.toList.all (fun c => !odd c) = false := by
            rw [List.all_eq_false]
            exact ⟨s[k], HO.out.2.2, by rw [← HO.out.1]; decide⟩
          unfold keyOk
          rw [this]; simp)
        go_wp2_with (go_at_call 53; refine (HG.out _).mono ?_; rintro e w3 ⟨rfl, rfl⟩)
        go_ret
        exact ⟨ret_bool HRR.out.symm, rfl⟩
    · have : k = s.size := by omega
      subst this
      have hall : s.data.toList.all (fun c => !odd c) = true := by
        rw [List.all_eq_true]
        intro c hc
        have := hno.out c (by rw [List.take_of_length_le (Nat.le_of_eq HL.out)]; exact hc)
        rw [this]; rfl
      by_cases h0 : s.data.toList = []
      · have h1 : s.toList = [] := by rw [ByteArray.toList_eq]; exact h0
        have h2 : (!s.toList.isEmpty) = false := by rw [h1]; rfl
        have h3 : (s.toList.isEmpty) = true := by rw [h1]; rfl
        have HRR : Hid (R = false) := Lib.hid (by rw [HR.out]; simp [keyOk, h0])
        clear h0 h1 hall
        go_wp2_with fail
        go_ret
        exact ⟨ret_bool HRR.out.symm, rfl⟩
      have h1 : s.toList ≠ [] := by rw [ByteArray.toList_eq]; exact h0
      have h3 : (s.toList.isEmpty) = false := by rw [List.isEmpty_eq_false_iff]; exact h1
      have hsz : 1 ≤ s.size := by
        have := List.length_pos_iff.2 h0
        have := HL.out
        omega
      obtain ⟨v, hv⟩ : ∃ v, v = Lib.validD s.data.toList := ⟨_, rfl⟩
      rw [← hv] at HU
      have hlast : s.data.toList.getLast? = some s[s.size - 1] := by
        rw [List.getLast?_eq_getElem?, HL.out, Array.getElem?_toList]
        exact Array.getElem?_eq_getElem (by show s.size - 1 < s.size; omega)
      obtain ⟨x, hx⟩ : ∃ x : UInt8, x = s[s.size - 1] := ⟨_, rfl⟩
      have HRR : Hid (R = (v && !(x == 92))) := Lib.hid (by rw [HR.out, keyOk, hall, hlast, ← hx, ← hv, List.isEmpty_eq_false_iff.2 h0]; simp)
      have hix : ∀ wx, (Instr.index 9 (.string s) (.int .i64 ((s.size : Int) - 1))).run Tryz.prog wx = .ok (.int .u8 (x.toNat : Int)) wx := fun wx => by
        rw [show ((s.size : Int) - 1) = ((s.size - 1 : Nat) : Int) by omega]
        have hlt' : ((s.size - 1 : Nat) : Int) < (s.size : Int) := by omega
        simp [go_sem, Tryz.underlying9, hlt', hx]
      clear hall hlast hx h0 h1 hv
      cases v
      · have HF : Hid (R = false) := Lib.hid (by rw [HRR.out]; simp)
        go_wp2_with (go_at_call 33; refine (HU.out _).mono ?_; rintro e w1 ⟨rfl, rfl⟩)
        go_ret
        exact ⟨ret_bool HF.out.symm, rfl⟩
      by_cases h92 : x = 92
      · have hb : ((x.toNat : Int) != 92) = false := by rw [h92]; rfl
        have HF : Hid (R = false) := Lib.hid (by rw [HRR.out, h92]; rfl)
        clear h92
        go_wp2_with (go_at_call 33; refine (HU.out _).mono ?_; rintro e w1 ⟨rfl, rfl⟩)
        go_ret
        exact ⟨ret_bool HF.out.symm, rfl⟩
      · have hb : ((x.toNat : Int) != 92) = true := by
          rw [bne_iff_ne]
          intro h
          exact h92 (UInt8.toNat_inj.1 (by simp only [UInt8.toNat_ofNat]; omega))
        have HF : Hid (R = true) := Lib.hid (by rw [HRR.out]; simp [h92])
        clear h92
        go_wp2_with (go_at_call 33; refine (HU.out _).mono ?_; rintro e w1 ⟨rfl, rfl⟩)
        go_ret
        exact ⟨ret_bool HF.out.symm, rfl⟩
end Go.Proofs.YtaaogjhaokaggaaGreatDoor
namespace Go.Proofs.YtaaogjhaokaggaaGreatDoor
open Go.RowKit

theorem tagsOk_drop (ah : List UInt8) (l : List (ByteArray × ByteArray)) (k : Nat) (x : ByteArray × ByteArray) (h : l[k]? = some x) :
    tagsOk ah (l.drop k) = (keyOk x.1.data.toList && keyOk x.2.data.toList && !keyLe x.1.data.toList ah && tagsOk x.1.data.toList (l.drop (k + 1))) := by
  have hk := (List.getElem?_eq_some_iff.1 h).1
  have : l.drop k = x :: l.drop (k + 1) := by
    rw [List.drop_eq_getElem_cons hk]
    have := (List.getElem?_eq_some_iff.1 h).2
    rw [this]
  rw [this]
  rfl

set_option maxRecDepth 100000 in
set_option maxHeartbeats 4000000 in
theorem lGood_any (e : LnD) (cs : Array Value) (w : World) (hn : e.name.size ≤ 1000000000) (ht : e.tags.length ≤ 1000) (hts : ∀ p, p ∈ e.tags → p.1.size ≤ 1000000000 ∧ p.2.size ≤ 1000000000) (hf : e.fields.length ≤ 1000) (hfs : ∀ p, p ∈ e.fields → p.1.size ≤ 1000000000) (hE : LineIn w cs e) :
    Calls Tryz.prog 49 #[.agg cs] w fun ε w' => (∃ b, ε = .returned (.bool b) ∧ (b = true → LnKeys e)) ∧ Fr [] w w' := by
  obtain ⟨tv, fv, vv, rfl, ⟨ta, tc, rfl, htags⟩, ⟨fa, fc, rfl, hfields⟩, ⟨va, vc, rfl, hvals⟩⟩ := hE
  have no : ∀ (w w' : World), Fr [] w w' → (∃ b, Ending.returned (.bool false) = .returned (.bool b) ∧ (b = true → LnKeys e)) ∧ Fr [] w w' := fun w w' h => ⟨⟨false, rfl, fun h => by cases h⟩, h⟩
  have NO := Lib.hid no; clear no
  have HKR := Lib.hid (fun (s : ByteArray) (hs : s.size ≤ 1000000000) w => keyRight_any s hs w)
  obtain ⟨w1, hw1⟩ : ∃ x, x = w.alloc (.cells #[.string e.name, .slice ta e.tags.length tc, .slice fa e.fields.length fc, .slice va e.values.length vc, .int .i64 e.n, .bool e.non, .bool e.raw] 43) := ⟨_, rfl⟩
  have hf1 : Fr [] w w1 := by rw [hw1]; exact (Fr.refl _ _).alloc _
  have hb1 : w1.heap[w.heap.size]? = some (.cells #[.string e.name, .slice ta e.tags.length tc, .slice fa e.fields.length fc, .slice va e.values.length vc, .int .i64 e.n, .bool e.non, .bool e.raw] 43 (0, 0)) := by rw [hw1]; exact heap_alloc_new _ _
  have HW1 := Lib.hid hw1
  have HF1 := Lib.hid hf1
  have HB1 := Lib.hid hb1
  have HT := Lib.hid htags
  have HFD := Lib.hid hfields
  have HTS := Lib.hid hts
  have HFS := Lib.hid hfs
  clear hw1 hf1 hb1 htags hfields hvals hts hfs
  obtain ⟨kn, hkn⟩ : ∃ b, b = keyOk e.name.data.toList := ⟨_, rfl⟩
  have hcall : ∀ w, Calls Tryz.prog 29 #[.string e.name] w fun ε w' => ε = .returned (.bool kn) ∧ w = w' := fun w => by rw [hkn]; exact (HKR.out e.name hn w).mono (fun _ _ h => ⟨h.1, h.2.symm⟩)
  have HC := Lib.hid hcall
  have HKN := Lib.hid hkn
  clear hcall hkn
  go_enter Tryz.func49, Tryz.ntmps49
  go_upto_region 1 with fail
  rw [← HW1.out]
  have d0 := cell_of_row w1 w.heap.size 0 _ 43 _ HB1.out
  have d1 := cell_of_row w1 w.heap.size 1 _ 43 _ HB1.out
  cases kn with
  | false =>
    go_wp2_with (go_at_call 29; refine (HC.out _).mono ?_; rintro ε w2 ⟨rfl, rfl⟩)
    go_ret
    exact NO.out _ _ HF1.out
  | true =>
    have hne : e.name.data.toList ≠ [] := fun h => by have := HKN.out; rw [h] at this; cases this
    have hsz : 0 < e.name.size := by
      have := List.length_pos_iff.2 hne
      simpa using this
    obtain ⟨x, hx⟩ : ∃ x : UInt8, x = e.name[0] := ⟨_, rfl⟩
    have hix : ∀ wx, (Instr.index 9 (.string e.name) (.int .i64 0)).run Tryz.prog wx = .ok (.int .u8 (x.toNat : Int)) wx := fun wx => by
      simp [go_sem, Tryz.underlying9, hsz, hx]
    obtain ⟨b35, hb35⟩ : ∃ b, ((x.toNat : Int) == 35) = b := ⟨_, rfl⟩
    clear hne hsz hx
    cases b35 with
    | true =>
      go_wp2_with (go_at_call 29; refine (HC.out _).mono ?_; rintro ε w2 ⟨rfl, rfl⟩)
      go_ret
      exact NO.out _ _ HF1.out
    | false =>
      go_wp2_with (go_at_call 29; refine (HC.out _).mono ?_; rintro ε w2 ⟨rfl, rfl⟩)
      clear hix hb35 d0 d1
      go_loopw [3, 21] (fun va i wr => ∃ (k : Nat) (ah : ByteArray), k ≤ e.tags.length ∧ i = .int .i64 k ∧ va = .string ah ∧ Hid (tagsOk [] e.tags = tagsOk ah.data.toList (e.tags.drop k)) ∧ Hid (Fr [] w1 wr)) (fun _ i _ => e.tags.length - (intOf i).toNat)
      case atStart => exact ⟨0, ⟨#[]⟩, Nat.zero_le _, rfl, rfl, Lib.hid rfl, Lib.hid (Fr.refl _ _)⟩
      case round =>
        obtain ⟨k, ah, hk, rfl, rfl, HA, HF⟩ := hrel
        by_cases hlt : k < e.tags.length
        case pos =>
          obtain ⟨x, hx⟩ : ∃ x, e.tags[k]? = some x := ⟨e.tags[k], List.getElem?_eq_getElem hlt⟩
          have hg : ∃ g off, ta = some ⟨g, off, none⟩ ∧ wr.cell? ⟨g, off + k * 2, none⟩ = some (.string x.1) ∧ wr.cell? ⟨g, off + k * 2 + 1, none⟩ = some (.string x.2) := by
            rcases HT.out with h | ⟨g, off, h1, h2⟩
            · rw [h] at hlt; simp at hlt
            · exact ⟨g, off, h1, (HF1.out.trans HF.out).cell (h2 k x hx).1 List.not_mem_nil, (HF1.out.trans HF.out).cell (h2 k x hx).2 List.not_mem_nil⟩
          obtain ⟨g, off, rfl, c0, c1⟩ := hg
          have hsz := HTS.out x (List.mem_of_getElem? hx)
          have HA2 := Lib.hid (HA.out.trans (tagsOk_drop _ _ _ _ hx))
          obtain ⟨x1, x2⟩ := x
          simp only at c0 c1 hsz
          obtain ⟨b1, hb1⟩ : ∃ b, b = keyOk x1.data.toList := ⟨_, rfl⟩
          obtain ⟨b2, hb2⟩ : ∃ b, b = keyOk x2.data.toList := ⟨_, rfl⟩
          obtain ⟨b3, hb3⟩ : ∃ b, b = keyLe x1.data.toList ah.data.toList := ⟨_, rfl⟩
          have hc1 : ∀ w, Calls Tryz.prog 29 #[.string x1] w fun ε w' => ε = .returned (.bool b1) ∧ w = w' := fun w => by rw [hb1]; exact (HKR.out x1 hsz.1 w).mono (fun _ _ h => ⟨h.1, h.2.symm⟩)
          have hc2 : ∀ w, Calls Tryz.prog 29 #[.string x2] w fun ε w' => ε = .returned (.bool b2) ∧ w = w' := fun w => by rw [hb2]; exact (HKR.out x2 hsz.2 w).mono (fun _ _ h => ⟨h.1, h.2.symm⟩)
          have hq : (Op.bytesLess x1.toList ah.toList || x1.toList == ah.toList) = b3 := by rw [ByteArray.toList_eq, ByteArray.toList_eq, hb3]; rfl
          have HQ := Lib.hid hq
          have HC1 := Lib.hid hc1
          have HC2 := Lib.hid hc2
          have HA3 : Hid (tagsOk [] e.tags = (b1 && b2 && !b3 && tagsOk x1.data.toList (e.tags.drop (k + 1)))) := Lib.hid (by rw [HA2.out, hb1, hb2, hb3])
          have HF2 := Lib.hid ((HF1.out.trans HF.out).alloc (.cells #[.string x1, .string x2] 80))
          have HF3 := Lib.hid (HF.out.alloc (.cells #[.string x1, .string x2] 80))
          clear hx hsz hb1 hb2 hb3 hc1 hc2 hq
          cases b1 with
          | false =>
            go_wp2_with (go_at_call 29; refine (HC1.out _).mono ?_; rintro ε w2 ⟨rfl, rfl⟩)
            go_ret
            exact NO.out _ _ HF2.out
          | true =>
            cases b2 with
            | false =>
              go_wp2_with (first | (go_at_call_of 29 x1; refine (HC1.out _).mono ?_; rintro ε w2 ⟨rfl, rfl⟩) | (go_at_call_of 29 x2; refine (HC2.out _).mono ?_; rintro ε w2 ⟨rfl, rfl⟩))
              go_ret
              exact NO.out _ _ HF2.out
            | true =>
              have hq := HQ.out
              cases b3 with
              | true =>
                go_wp2_with (first | (go_at_call_of 29 x1; refine (HC1.out _).mono ?_; rintro ε w2 ⟨rfl, rfl⟩) | (go_at_call_of 29 x2; refine (HC2.out _).mono ?_; rintro ε w2 ⟨rfl, rfl⟩))
                go_ret
                exact NO.out _ _ HF2.out
              | false =>
                go_wp2_with (first | (go_at_call_of 29 x1; refine (HC1.out _).mono ?_; rintro ε w2 ⟨rfl, rfl⟩) | (go_at_call_of 29 x2; refine (HC2.out _).mono ?_; rintro ε w2 ⟨rfl, rfl⟩))
                go_roundw
                case rel => exact ⟨k + 1, x1, by omega, by go_num, rfl, Lib.hid (by rw [HA3.out]; simp), HF3⟩
                case measure => simp [intOf]; omega
        case neg =>
          have hTO : tagsOk [] e.tags = true := by
            rw [HA.out, List.drop_eq_nil_of_le (by omega)]
            rfl
          have HTO := Lib.hid hTO
          have d2 := cell_of_row wr w.heap.size 2 _ 43 _ (HF.out.blk HB1.out List.not_mem_nil)
          clear hTO
          go_wp2_with fail
          go_loopw [47] (fun i wr => ∃ k : Nat, k ≤ e.fields.length ∧ i = .int .i64 k ∧ Hid (∀ p, p ∈ e.fields.take k → keyOk p.1.data.toList = true) ∧ Hid (Fr [] w1 wr)) (fun i _ => e.fields.length - (intOf i).toNat)
          case atStart => exact ⟨0, Nat.zero_le _, rfl, Lib.hid (by simp), HF⟩
          case round =>
            obtain ⟨k, hk, rfl, HA, HF⟩ := hrel
            by_cases hlt : k < e.fields.length
            case pos =>
              obtain ⟨x, hx⟩ : ∃ x, e.fields[k]? = some x := ⟨e.fields[k], List.getElem?_eq_getElem hlt⟩
              have hg : ∃ g off, fa = some ⟨g, off, none⟩ ∧ wr.cell? ⟨g, off + k * 2, none⟩ = some (.string x.1) ∧ wr.cell? ⟨g, off + k * 2 + 1, none⟩ = some (.string x.2) := by
                rcases HFD.out with h | ⟨g, off, h1, h2⟩
                · rw [h] at hlt; simp at hlt
                · exact ⟨g, off, h1, (HF1.out.trans HF.out).cell (h2 k x hx).1 List.not_mem_nil, (HF1.out.trans HF.out).cell (h2 k x hx).2 List.not_mem_nil⟩
              obtain ⟨g, off, rfl, c0, c1⟩ := hg
              have hsz := HFS.out x (List.mem_of_getElem? hx)
              have htk : e.fields.take (k + 1) = e.fields.take k ++ [x] := by rw [List.take_add_one, hx]; rfl
              have HTK := Lib.hid htk
              obtain ⟨x1, x2⟩ := x
              simp only at c0 c1 hsz
              obtain ⟨b1, hb1⟩ : ∃ b, b = keyOk x1.data.toList := ⟨_, rfl⟩
              have hc1 : ∀ w, Calls Tryz.prog 29 #[.string x1] w fun ε w' => ε = .returned (.bool b1) ∧ w = w' := fun w => by rw [hb1]; exact (HKR.out x1 hsz w).mono (fun _ _ h => ⟨h.1, h.2.symm⟩)
              have HC1 := Lib.hid hc1
              have HK1 := Lib.hid hb1
              have HF2 := Lib.hid ((HF1.out.trans HF.out).alloc (.cells #[.string x1, .string x2] 80))
              have HF3 := Lib.hid (HF.out.alloc (.cells #[.string x1, .string x2] 80))
              clear hx hsz hb1 hc1 htk
              cases b1 with
              | false =>
                go_wp2_with (go_at_call 29; refine (HC1.out _).mono ?_; rintro ε w2 ⟨rfl, rfl⟩)
                go_ret
                exact NO.out _ _ HF2.out
              | true =>
                go_wp2_with (go_at_call 29; refine (HC1.out _).mono ?_; rintro ε w2 ⟨rfl, rfl⟩)
                go_roundw
                case rel =>
                  refine ⟨k + 1, by omega, by go_num, Lib.hid (fun p hp => ?_), HF3⟩
                  rw [HTK.out] at hp
                  rcases List.mem_append.1 hp with hp | hp
                  · exact HA.out p hp
                  · simp at hp; rw [hp]; exact HK1.out.symm
                case measure => simp [intOf]; omega
            case neg =>
              go_wp2_with fail
              go_ret
              exact ⟨⟨true, rfl, fun _ => ⟨HKN.out.symm, HTO.out, fun p hp => HA.out p (by rw [List.take_of_length_le (by omega)]; exact hp)⟩⟩, HF1.out.trans HF.out⟩
theorem szs_of {l : List LnD} (h : LinesOk l) {e : LnD} (he : e ∈ l) : e.name.size ≤ 2000 ∧ e.tags.length ≤ 100 ∧ (∀ p, p ∈ e.tags → p.1.size ≤ 2000 ∧ p.2.size ≤ 2000) ∧ e.fields.length ≤ 100 ∧ (∀ p, p ∈ e.fields → p.1.size ≤ 2000) := by
  have h1 : lnSz e ≤ 2000 := Nat.le_trans (mem_le_sum lnSz l e he) h.sz
  have h2 : lnPt e ≤ 100 := Nat.le_trans (mem_le_sum lnPt l e he) h.pt
  have hv := (h.good e he).vals
  unfold lnSz at h1
  unfold lnPt at h2
  refine ⟨by omega, by omega, fun p hp => ?_, by omega, fun p hp => ?_⟩
  · have := mem_le_sum tagSz e.tags p hp
    unfold tagSz at this
    unfold tagSz at h1
    omega
  · obtain ⟨i, hi⟩ := List.mem_iff_getElem?.1 hp
    have hil := (List.getElem?_eq_some_iff.1 hi).1
    have hvi : e.values[i]? = some e.values[i] := List.getElem?_eq_getElem (by omega)
    have hz : (e.fields.zip e.values)[i]? = some (p, e.values[i]) := List.getElem?_zip_eq_some.2 ⟨hi, hvi⟩
    have := mem_le_sum fldSz (e.fields.zip e.values) _ (List.mem_of_getElem? hz)
    have h5 : fldSz (p, e.values[i]) = p.1.size + e.values[i].s.size := rfl
    omega
set_option maxRecDepth 100000 in
set_option maxHeartbeats 4000000 in
theorem lAllGood_any (l : List LnD) (v : Value) (w : World) (hlen : l.length ≤ 2147483647) (hfit : fitLs l = true) (hP : LinesIn w v l) :
    Calls Tryz.prog 24 #[v] w fun e w' => (∃ b, e = .returned (.bool b) ∧ (b = true → LinesOk l ∧ ∀ e, e ∈ l → LnKeys e)) ∧ Fr [] w w' := by
  have hl := lLines_any l v w hlen hfit hP
  obtain ⟨a, c, rfl, h⟩ := hP
  have no : ∀ (w w' : World), Fr [] w w' → (∃ b, Ending.returned (.bool false) = .returned (.bool b) ∧ (b = true → LinesOk l ∧ ∀ e, e ∈ l → LnKeys e)) ∧ Fr [] w w' := fun w w' h => ⟨⟨false, rfl, fun h => by cases h⟩, h⟩
  have NO := Lib.hid no; clear no
  have HROW := Lib.hid h
  have HL := Lib.hid hl
  obtain ⟨L, hL⟩ : ∃ L, L = l.length := ⟨_, rfl⟩
  rw [← hL] at hlen HL ⊢
  have HLL := Lib.hid hL
  clear hl h hL hfit
  go_enter Tryz.func24, Tryz.ntmps24
  go_wp2_with (go_at_call 21; refine HL.out.mono ?_; rintro ε w1 ⟨⟨b, rfl, hb⟩, hf1⟩; have HF1 := Lib.hid hf1; have HB := Lib.hid hb; clear hf1 hb; cases b)
  · go_ret
    exact NO.out _ _ HF1.out
  have HLO := Lib.hid (HB.out trivial)
  clear HB
  go_wp2_with fail
  go_loopw [10] (fun i wr => ∃ k : Nat, k ≤ L ∧ i = .int .i64 k ∧ Hid (∀ e, e ∈ l.take k → LnKeys e) ∧ Hid (Fr [] w wr)) (fun i _ => L - (intOf i).toNat)
  case atStart => exact ⟨0, Nat.zero_le _, rfl, Lib.hid (by simp), HF1⟩
  case round =>
    obtain ⟨k, hk, rfl, HA, HF⟩ := hrel
    by_cases hlt : k < L
    case neg =>
      go_wp2_with fail
      go_ret
      exact ⟨⟨true, rfl, fun _ => ⟨HLO.out, fun e he => HA.out e (by rw [List.take_of_length_le (by rw [← HLL.out]; omega)]; exact he)⟩⟩, HF.out⟩
    have hlk : k < l.length := by rw [← HLL.out]; exact hlt
    obtain ⟨x, hx⟩ : ∃ x, l[k]? = some x := ⟨l[k], List.getElem?_eq_getElem hlk⟩
    obtain ⟨g, off, rfl, cs, hline, hcell⟩ := lines_at HROW.out hx HF.out
    obtain ⟨s1, s2, s3, s4, s5⟩ := szs_of HLO.out (List.mem_of_getElem? hx)
    have hz : ∀ w', Fr [] wr w' → Calls Tryz.prog 49 #[.agg cs] w' fun ε w2 => (∃ b, ε = .returned (.bool b) ∧ (b = true → LnKeys x)) ∧ Fr [] w' w2 := fun w' hf => lGood_any x cs w' (by omega) (by omega) (fun p hp => by have := s3 p hp; omega) (by omega) (fun p hp => by have := s5 p hp; omega) (hline.fr hf)
    have HX := Lib.hid (take_snoc l k x hx)
    obtain ⟨tv, fv, vv, rfl, ⟨ta, tc, rfl, _⟩, ⟨fa, fc, rfl, _⟩, ⟨va, vc, rfl, _⟩⟩ := hline
    have c0 : wr.cell? ⟨g, off + k * 7, none⟩ = some (.string x.name) := hcell 0 _ rfl
    have c1 : wr.cell? ⟨g, off + k * 7 + 1, none⟩ = some (.slice ta x.tags.length tc) := hcell 1 _ rfl
    have c2 : wr.cell? ⟨g, off + k * 7 + 2, none⟩ = some (.slice fa x.fields.length fc) := hcell 2 _ rfl
    have c3 : wr.cell? ⟨g, off + k * 7 + 3, none⟩ = some (.slice va x.values.length vc) := hcell 3 _ rfl
    have c4 : wr.cell? ⟨g, off + k * 7 + 4, none⟩ = some (.int .i64 x.n) := hcell 4 _ rfl
    have c5 : wr.cell? ⟨g, off + k * 7 + 5, none⟩ = some (.bool x.non) := hcell 5 _ rfl
    have c6 : wr.cell? ⟨g, off + k * 7 + 6, none⟩ = some (.bool x.raw) := hcell 6 _ rfl
    have HZ := Lib.hid hz
    clear hcell hz hx hlk s1 s2 s3 s4 s5
    go_wp2_with (go_at_call 49; refine (HZ.out _ ((Fr.refl _ _).alloc _)).mono ?_; rintro ε w2 ⟨⟨b, rfl, hb⟩, hf2⟩; have HF2 := Lib.hid ((HF.out.alloc _).trans hf2); have HB := Lib.hid hb; clear hf2 hb; cases b)
    · go_ret
      exact NO.out _ _ HF2.out
    · go_roundw
      case rel =>
        refine ⟨k + 1, by omega, by go_num, Lib.hid (fun p hp => ?_), HF2⟩
        rw [HX.out] at hp
        rcases List.mem_append.1 hp with hp | hp
        · exact HA.out p hp
        · simp at hp; rw [hp]; exact HB.out trivial
      case measure => simp [intOf]; omega
end Go.Proofs.YtaaogjhaokaggaaGreatDoor
