import Derived.Test.YtaaogjhaokaggaaGreatDoorFltZA
import Derived.Test.YtaaogjhaokaggaaGreatDoorKeyB
namespace Go.Proofs.YtaaogjhaokaggaaGreatDoor
open Go.RowKit

/-- A byte as spec.Escaped writes it. -/
def spE (q : Nat) (c : UInt8) : List UInt8 :=
  if q = 4 then (if c = 10 then [92, 110] else if c = 13 then [92, 114] else if c = 9 then [92, 116] else if c = 92 ∨ c = 34 then [92, c] else [c])
  else if c = 44 ∨ c = 32 ∨ (c = 61 ∧ q ≠ 0) then [92, c] else [c]
def spEsc (q : Nat) (l : List UInt8) : List UInt8 := l.flatMap (spE q)
theorem spE_len (q : Nat) (c : UInt8) : (spE q c).length ≤ 2 := by
  unfold spE
  repeat' split
  all_goals simp
theorem spEsc_len (q : Nat) : ∀ l : List UInt8, (spEsc q l).length ≤ 2 * l.length
  | [] => by simp [spEsc]
  | c :: r => by
    have h1 := spEsc_len q r
    have h2 := spE_len q c
    simp only [spEsc, List.flatMap_cons, List.length_append, List.length_cons] at *
    omega
theorem spEsc_snoc (q : Nat) (l : List UInt8) (c : UInt8) : spEsc q (l ++ [c]) = spEsc q l ++ spE q c := by simp [spEsc]
theorem u8i {c : UInt8} {n : Nat} (h : c.toNat = n) (hn : n < 256) : c = UInt8.ofNat n := by
  apply UInt8.toNat_inj.1
  rw [UInt8.toNat_ofNat']
  omega

/-- What was written so far: nil, or a block of its own. -/
structure OutAt (w wr : World) (v : Value) (l : List UInt8) : Prop where
  own : Own wr 5 v l
  fr : Fr [] w wr
  new : ∀ g, v.ownBlock = some g → w.heap.size ≤ g
theorem OutAt.next {w wr w2 : World} {v v2 : Value} {l m : List UInt8} (h : OutAt w wr v l) (ho : Own w2 5 v2 m) (hs : Stp wr w2 v v2) : OutAt w w2 v2 m := by
  refine ⟨ho, h.fr.step hs.1 (fun t ht => .inr (h.new t (by simpa using ht))), fun g hg => ?_⟩
  rcases hs.2 with h2 | ⟨k, h2, h3⟩
  · exact h.new g (h2 ▸ hg)
  · rw [h2] at hg; cases hg; exact Nat.le_trans h.fr.size h3


set_option maxRecDepth 100000 in
set_option maxHeartbeats 4000000 in
theorem specEsc4 (s : ByteArray) (hs : s.size ≤ 1000000000) (w : World) : 
    Calls Tryz.prog 42 #[.int .i64 4, .string s] w fun e w' => e = .returned (.string ⟨(spEsc 4 s.data.toList).toArray⟩) ∧ Fr [] w w' := by
  have HL : Hid (s.data.toList.length = s.size) := Lib.hid (by simp)
  go_enter Tryz.func42, Tryz.ntmps42
  go_wp2_with fail
  go_loopw [5, 6] (fun v i wr => ∃ k : Nat, k ≤ s.size ∧ i = .int .i64 k ∧ Hid (OutAt w wr v (spEsc 4 (s.data.toList.take k)))) (fun _ i _ => s.size - (RowKit.intOf i).toNat)
  case atStart => exact ⟨0, by omega, rfl, Lib.hid ⟨Own.nil _ _, Fr.refl _ _, by simp [Value.ownBlock]⟩⟩
  case round =>
    obtain ⟨k, hk, rfl, H⟩ := hrel
    by_cases hlt : k < s.size
    case neg =>
      have hcv := conv_own H.out.own
      go_wp2_with fail
      go_ret
      have e : s.data.toList.take k = s.data.toList := List.take_of_length_le (by rw [HL.out]; omega)
      refine ⟨?_, H.out.fr⟩
      rw [e]
      rfl
    have hts := take_succ s k hlt
    have hsn := spEsc_snoc 4 (s.data.toList.take k) s[k]
    rw [← hts] at hsn
    have HSN := Lib.hid hsn; clear hsn hts
    have hln := spEsc_len 4 (s.data.toList.take k)
    rw [List.length_take] at hln
    have HLN : Hid ((spEsc 4 (s.data.toList.take k)).length ≤ 2000000000) := Lib.hid (by rw [HL.out] at hln; omega)
    clear hln

    by_cases h10 : s[k].toNat = 10
    case pos =>
      have hi : (s[k].toNat : Int) = 10 := by omega
      have HX : Hid (s[k] = 10) := Lib.hid (u8i h10 (by decide))
      clear h10
      go_wp2_with (at_builtin; refine wpApp2 _ (o := ⟨some 24, _, _, _, _, _⟩) rfl (.tmp 22) (.tmp 23) rfl u5 (spEsc 4 (s.data.toList.take k)) _ _ 92 110 rfl rfl rfl rfl H.out.own (by have := HLN.out; (try simp only [List.length_append, List.length_cons, List.length_nil]); omega) ?_; intro v1 w1 ho1 hs1; have HO1 := Lib.hid ho1; have HS1 := Lib.hid hs1; clear ho1 hs1)
      go_roundw
      case rel => exact ⟨k + 1, by omega, by go_num, Lib.hid (by rw [HSN.out, show spE 4 s[k] = [92, 110] from (by rw [HX.out]; rfl)]; exact H.out.next HO1.out HS1.out)⟩
      case measure => simp [RowKit.intOf]; omega
    have b10 : ((s[k].toNat : Int) == 10) = false := by rw [beq_eq_false_iff_ne]; omega
    have N10 : Hid (¬ s[k] = 10) := Lib.hid (fun h => h10 (by rw [h]; rfl))
    clear h10
    by_cases h13 : s[k].toNat = 13
    case pos =>
      have hi : (s[k].toNat : Int) = 13 := by omega
      have HX : Hid (s[k] = 13) := Lib.hid (u8i h13 (by decide))
      clear h13
      go_wp2_with (at_builtin; refine wpApp2 _ (o := ⟨some 29, _, _, _, _, _⟩) rfl (.tmp 27) (.tmp 28) rfl u5 (spEsc 4 (s.data.toList.take k)) _ _ 92 114 rfl rfl rfl rfl H.out.own (by have := HLN.out; (try simp only [List.length_append, List.length_cons, List.length_nil]); omega) ?_; intro v1 w1 ho1 hs1; have HO1 := Lib.hid ho1; have HS1 := Lib.hid hs1; clear ho1 hs1)
      go_roundw
      case rel => exact ⟨k + 1, by omega, by go_num, Lib.hid (by rw [HSN.out, show spE 4 s[k] = [92, 114] from (by rw [HX.out]; rfl)]; exact H.out.next HO1.out HS1.out)⟩
      case measure => simp [RowKit.intOf]; omega
    have b13 : ((s[k].toNat : Int) == 13) = false := by rw [beq_eq_false_iff_ne]; omega
    have N13 : Hid (¬ s[k] = 13) := Lib.hid (fun h => h13 (by rw [h]; rfl))
    clear h13
    by_cases h9 : s[k].toNat = 9
    case pos =>
      have hi : (s[k].toNat : Int) = 9 := by omega
      have HX : Hid (s[k] = 9) := Lib.hid (u8i h9 (by decide))
      clear h9
      go_wp2_with (at_builtin; refine wpApp2 _ (o := ⟨some 34, _, _, _, _, _⟩) rfl (.tmp 32) (.tmp 33) rfl u5 (spEsc 4 (s.data.toList.take k)) _ _ 92 116 rfl rfl rfl rfl H.out.own (by have := HLN.out; (try simp only [List.length_append, List.length_cons, List.length_nil]); omega) ?_; intro v1 w1 ho1 hs1; have HO1 := Lib.hid ho1; have HS1 := Lib.hid hs1; clear ho1 hs1)
      go_roundw
      case rel => exact ⟨k + 1, by omega, by go_num, Lib.hid (by rw [HSN.out, show spE 4 s[k] = [92, 116] from (by rw [HX.out]; rfl)]; exact H.out.next HO1.out HS1.out)⟩
      case measure => simp [RowKit.intOf]; omega
    have b9 : ((s[k].toNat : Int) == 9) = false := by rw [beq_eq_false_iff_ne]; omega
    have N9 : Hid (¬ s[k] = 9) := Lib.hid (fun h => h9 (by rw [h]; rfl))
    clear h9
    by_cases h92 : s[k].toNat = 92
    case pos =>
      have hi : (s[k].toNat : Int) = 92 := by omega
      have HX : Hid (s[k] = 92) := Lib.hid (u8i h92 (by decide))
      clear h92
      go_wp2_with (first
        | (at_builtin; refine wpApp1 _ (o := ⟨some 43, _, _, _, _, _⟩) rfl (.tmp 41) (.tmp 42) rfl u5 (spEsc 4 (s.data.toList.take k)) _ 92 rfl rfl rfl H.out.own (by have := HLN.out; (try simp only [List.length_append, List.length_cons, List.length_nil]); omega) ?_; intro v1 w1 ho1 hs1; have HO1 := Lib.hid ho1; have HS1 := Lib.hid hs1; clear ho1 hs1)
        | (at_builtin; refine wpApp1 _ (o := ⟨some 64, _, _, _, _, _⟩) rfl (.tmp 61) (.tmp 63) rfl v1 (spEsc 4 (s.data.toList.take k) ++ [92]) _ 92 rfl rfl rfl HO1.out (by have := HLN.out; (try simp only [List.length_append, List.length_cons, List.length_nil]); omega) ?_; intro v2 w2 ho2 hs2; have HO2 := Lib.hid ho2; have HS2 := Lib.hid (HS1.out.trans hs2); clear ho2 hs2))
      go_roundw
      case rel => exact ⟨k + 1, by omega, by go_num, Lib.hid (by rw [HSN.out, show spE 4 s[k] = [92, 92] from (by rw [HX.out]; rfl)]; rw [show (spEsc 4 (s.data.toList.take k) ++ [92, 92]) = ((spEsc 4 (s.data.toList.take k) ++ [92]) ++ [92]) by simp]; exact H.out.next HO2.out HS2.out)⟩
      case measure => simp [RowKit.intOf]; omega
    have b92 : ((s[k].toNat : Int) == 92) = false := by rw [beq_eq_false_iff_ne]; omega
    have N92 : Hid (¬ s[k] = 92) := Lib.hid (fun h => h92 (by rw [h]; rfl))
    clear h92
    by_cases h34 : s[k].toNat = 34
    case pos =>
      have hi : (s[k].toNat : Int) = 34 := by omega
      have HX : Hid (s[k] = 34) := Lib.hid (u8i h34 (by decide))
      clear h34
      go_wp2_with (first
        | (at_builtin; refine wpApp1 _ (o := ⟨some 43, _, _, _, _, _⟩) rfl (.tmp 41) (.tmp 42) rfl u5 (spEsc 4 (s.data.toList.take k)) _ 92 rfl rfl rfl H.out.own (by have := HLN.out; (try simp only [List.length_append, List.length_cons, List.length_nil]); omega) ?_; intro v1 w1 ho1 hs1; have HO1 := Lib.hid ho1; have HS1 := Lib.hid hs1; clear ho1 hs1)
        | (at_builtin; refine wpApp1 _ (o := ⟨some 64, _, _, _, _, _⟩) rfl (.tmp 61) (.tmp 63) rfl v1 (spEsc 4 (s.data.toList.take k) ++ [92]) _ 34 rfl rfl rfl HO1.out (by have := HLN.out; (try simp only [List.length_append, List.length_cons, List.length_nil]); omega) ?_; intro v2 w2 ho2 hs2; have HO2 := Lib.hid ho2; have HS2 := Lib.hid (HS1.out.trans hs2); clear ho2 hs2))
      go_roundw
      case rel => exact ⟨k + 1, by omega, by go_num, Lib.hid (by rw [HSN.out, show spE 4 s[k] = [92, 34] from (by rw [HX.out]; rfl)]; rw [show (spEsc 4 (s.data.toList.take k) ++ [92, 34]) = ((spEsc 4 (s.data.toList.take k) ++ [92]) ++ [34]) by simp]; exact H.out.next HO2.out HS2.out)⟩
      case measure => simp [RowKit.intOf]; omega
    have b34 : ((s[k].toNat : Int) == 34) = false := by rw [beq_eq_false_iff_ne]; omega
    have N34 : Hid (¬ s[k] = 34) := Lib.hid (fun h => h34 (by rw [h]; rfl))
    clear h34
    go_wp2_with (at_builtin; refine wpApp1 _ (o := ⟨some 64, _, _, _, _, _⟩) rfl (.tmp 61) (.tmp 63) rfl u5 (spEsc 4 (s.data.toList.take k)) _ s[k] rfl rfl rfl H.out.own (by have := HLN.out; (try simp only [List.length_append, List.length_cons, List.length_nil]); omega) ?_; intro v1 w1 ho1 hs1; have HO1 := Lib.hid ho1; have HS1 := Lib.hid hs1; clear ho1 hs1)
    go_roundw
    case rel => exact ⟨k + 1, by omega, by go_num, Lib.hid (by rw [HSN.out, show spE 4 s[k] = [s[k]] from (by unfold spE; rw [if_pos rfl, if_neg N10.out, if_neg N13.out, if_neg N9.out, if_neg (by rintro (h | h); exact N92.out h; exact N34.out h)])]; exact H.out.next HO1.out HS1.out)⟩
    case measure => simp [RowKit.intOf]; omega
set_option maxRecDepth 100000 in
set_option maxHeartbeats 4000000 in
theorem specEscQ (q : Nat) (hq : q ≤ 3) (s : ByteArray) (hs : s.size ≤ 1000000000) (w : World) : 
    Calls Tryz.prog 42 #[.int .i64 (q : Int), .string s] w fun e w' => e = .returned (.string ⟨(spEsc q s.data.toList).toArray⟩) ∧ Fr [] w w' := by
  have HL : Hid (s.data.toList.length = s.size) := Lib.hid (by simp)
  have q4 : ((q : Int) == 4) = false := by rw [beq_eq_false_iff_ne]; omega
  have HQ : Hid (q ≠ 4) := Lib.hid (by omega)
  go_enter Tryz.func42, Tryz.ntmps42
  go_wp2_with fail
  go_loopw [5, 6] (fun v i wr => ∃ k : Nat, k ≤ s.size ∧ i = .int .i64 k ∧ Hid (OutAt w wr v (spEsc q (s.data.toList.take k)))) (fun _ i _ => s.size - (RowKit.intOf i).toNat)
  case atStart => exact ⟨0, by omega, rfl, Lib.hid ⟨Own.nil _ _, Fr.refl _ _, by simp [Value.ownBlock]⟩⟩
  case round =>
    obtain ⟨k, hk, rfl, H⟩ := hrel
    by_cases hlt : k < s.size
    case neg =>
      have hcv := conv_own H.out.own
      go_wp2_with fail
      go_ret
      have e : s.data.toList.take k = s.data.toList := List.take_of_length_le (by rw [HL.out]; omega)
      refine ⟨?_, H.out.fr⟩
      rw [e]
      rfl
    have hts := take_succ s k hlt
    have hsn := spEsc_snoc q (s.data.toList.take k) s[k]
    rw [← hts] at hsn
    have HSN := Lib.hid hsn; clear hsn hts
    have hln := spEsc_len q (s.data.toList.take k)
    rw [List.length_take] at hln
    have HLN : Hid ((spEsc q (s.data.toList.take k)).length ≤ 2000000000) := Lib.hid (by rw [HL.out] at hln; omega)
    clear hln

    by_cases h44 : s[k].toNat = 44
    case pos =>
      have hi : (s[k].toNat : Int) = 44 := by omega
      have HX : Hid (s[k] = 44) := Lib.hid (u8i h44 (by decide))
      clear h44
      go_wp2_with (first
        | (at_builtin; refine wpApp1 _ (o := ⟨some 60, _, _, _, _, _⟩) rfl (.tmp 58) (.tmp 59) rfl u5 (spEsc q (s.data.toList.take k)) _ 92 rfl rfl rfl H.out.own (by have := HLN.out; (try simp only [List.length_append, List.length_cons, List.length_nil]); omega) ?_; intro v1 w1 ho1 hs1; have HO1 := Lib.hid ho1; have HS1 := Lib.hid hs1; clear ho1 hs1)
        | (at_builtin; refine wpApp1 _ (o := ⟨some 64, _, _, _, _, _⟩) rfl (.tmp 61) (.tmp 63) rfl v1 (spEsc q (s.data.toList.take k) ++ [92]) _ 44 rfl rfl rfl HO1.out (by have := HLN.out; (try simp only [List.length_append, List.length_cons, List.length_nil]); omega) ?_; intro v2 w2 ho2 hs2; have HO2 := Lib.hid ho2; have HS2 := Lib.hid (HS1.out.trans hs2); clear ho2 hs2))
      go_roundw
      case rel => exact ⟨k + 1, by omega, by go_num, Lib.hid (by rw [HSN.out, show spE q s[k] = [92, 44] from (by unfold spE; rw [if_neg HQ.out, HX.out, if_pos (by simp)])]; rw [show (spEsc q (s.data.toList.take k) ++ [92, 44]) = ((spEsc q (s.data.toList.take k) ++ [92]) ++ [44]) by simp]; exact H.out.next HO2.out HS2.out)⟩
      case measure => simp [RowKit.intOf]; omega
    have b44 : ((s[k].toNat : Int) == 44) = false := by rw [beq_eq_false_iff_ne]; omega
    have N44 : Hid (¬ s[k] = 44) := Lib.hid (fun h => h44 (by rw [h]; rfl))
    clear h44
    by_cases h32 : s[k].toNat = 32
    case pos =>
      have hi : (s[k].toNat : Int) = 32 := by omega
      have HX : Hid (s[k] = 32) := Lib.hid (u8i h32 (by decide))
      clear h32
      go_wp2_with (first
        | (at_builtin; refine wpApp1 _ (o := ⟨some 60, _, _, _, _, _⟩) rfl (.tmp 58) (.tmp 59) rfl u5 (spEsc q (s.data.toList.take k)) _ 92 rfl rfl rfl H.out.own (by have := HLN.out; (try simp only [List.length_append, List.length_cons, List.length_nil]); omega) ?_; intro v1 w1 ho1 hs1; have HO1 := Lib.hid ho1; have HS1 := Lib.hid hs1; clear ho1 hs1)
        | (at_builtin; refine wpApp1 _ (o := ⟨some 64, _, _, _, _, _⟩) rfl (.tmp 61) (.tmp 63) rfl v1 (spEsc q (s.data.toList.take k) ++ [92]) _ 32 rfl rfl rfl HO1.out (by have := HLN.out; (try simp only [List.length_append, List.length_cons, List.length_nil]); omega) ?_; intro v2 w2 ho2 hs2; have HO2 := Lib.hid ho2; have HS2 := Lib.hid (HS1.out.trans hs2); clear ho2 hs2))
      go_roundw
      case rel => exact ⟨k + 1, by omega, by go_num, Lib.hid (by rw [HSN.out, show spE q s[k] = [92, 32] from (by unfold spE; rw [if_neg HQ.out, HX.out, if_pos (by simp)])]; rw [show (spEsc q (s.data.toList.take k) ++ [92, 32]) = ((spEsc q (s.data.toList.take k) ++ [92]) ++ [32]) by simp]; exact H.out.next HO2.out HS2.out)⟩
      case measure => simp [RowKit.intOf]; omega
    have b32 : ((s[k].toNat : Int) == 32) = false := by rw [beq_eq_false_iff_ne]; omega
    have N32 : Hid (¬ s[k] = 32) := Lib.hid (fun h => h32 (by rw [h]; rfl))
    clear h32
    by_cases h61 : s[k].toNat = 61
    case pos =>
      have hi : (s[k].toNat : Int) = 61 := by omega
      have HX : Hid (s[k] = 61) := Lib.hid (u8i h61 (by decide))
      clear h61
      by_cases q0 : q = 0
      case pos =>
        have q0i : ((q : Int) != 0) = false := by rw [bne_eq_false_iff_eq]; omega
        have Q0 := Lib.hid q0; clear q0
        go_wp2_with (at_builtin; refine wpApp1 _ (o := ⟨some 64, _, _, _, _, _⟩) rfl (.tmp 61) (.tmp 63) rfl u5 (spEsc q (s.data.toList.take k)) _ 61 rfl rfl rfl H.out.own (by have := HLN.out; (try simp only [List.length_append, List.length_cons, List.length_nil]); omega) ?_; intro v1 w1 ho1 hs1; have HO1 := Lib.hid ho1; have HS1 := Lib.hid hs1; clear ho1 hs1)
        go_roundw
        case rel => exact ⟨k + 1, by omega, by go_num, Lib.hid (by rw [HSN.out, show spE q s[k] = [61] from (by unfold spE; rw [if_neg HQ.out, if_neg (by rintro (h | h | h); exact N44.out h; exact N32.out h; exact h.2 Q0.out), HX.out])]; exact H.out.next HO1.out HS1.out)⟩
        case measure => simp [RowKit.intOf]; omega
      have q0b : ((q : Int) != 0) = true := by rw [bne_iff_ne]; omega
      have Q0 := Lib.hid q0; clear q0
      go_wp2_with (first
        | (at_builtin; refine wpApp1 _ (o := ⟨some 60, _, _, _, _, _⟩) rfl (.tmp 58) (.tmp 59) rfl u5 (spEsc q (s.data.toList.take k)) _ 92 rfl rfl rfl H.out.own (by have := HLN.out; (try simp only [List.length_append, List.length_cons, List.length_nil]); omega) ?_; intro v1 w1 ho1 hs1; have HO1 := Lib.hid ho1; have HS1 := Lib.hid hs1; clear ho1 hs1)
        | (at_builtin; refine wpApp1 _ (o := ⟨some 64, _, _, _, _, _⟩) rfl (.tmp 61) (.tmp 63) rfl v1 (spEsc q (s.data.toList.take k) ++ [92]) _ 61 rfl rfl rfl HO1.out (by have := HLN.out; (try simp only [List.length_append, List.length_cons, List.length_nil]); omega) ?_; intro v2 w2 ho2 hs2; have HO2 := Lib.hid ho2; have HS2 := Lib.hid (HS1.out.trans hs2); clear ho2 hs2))
      go_roundw
      case rel => exact ⟨k + 1, by omega, by go_num, Lib.hid (by rw [HSN.out, show spE q s[k] = [92, 61] from (by unfold spE; rw [if_neg HQ.out, if_pos (.inr (.inr ⟨HX.out, Q0.out⟩)), HX.out])]; rw [show (spEsc q (s.data.toList.take k) ++ [92, 61]) = ((spEsc q (s.data.toList.take k) ++ [92]) ++ [61]) by simp]; exact H.out.next HO2.out HS2.out)⟩
      case measure => simp [RowKit.intOf]; omega
    have b61 : ((s[k].toNat : Int) == 61) = false := by rw [beq_eq_false_iff_ne]; omega
    have N61 : Hid (¬ s[k] = 61) := Lib.hid (fun h => h61 (by rw [h]; rfl))
    clear h61
    go_wp2_with (at_builtin; refine wpApp1 _ (o := ⟨some 64, _, _, _, _, _⟩) rfl (.tmp 61) (.tmp 63) rfl u5 (spEsc q (s.data.toList.take k)) _ s[k] rfl rfl rfl H.out.own (by have := HLN.out; (try simp only [List.length_append, List.length_cons, List.length_nil]); omega) ?_; intro v1 w1 ho1 hs1; have HO1 := Lib.hid ho1; have HS1 := Lib.hid hs1; clear ho1 hs1)
    go_roundw
    case rel => exact ⟨k + 1, by omega, by go_num, Lib.hid (by rw [HSN.out, show spE q s[k] = [s[k]] from (by unfold spE; rw [if_neg HQ.out, if_neg (by rintro (h | h | h); exact N44.out h; exact N32.out h; exact N61.out h.1)])]; exact H.out.next HO1.out HS1.out)⟩
    case measure => simp [RowKit.intOf]; omega
end Go.Proofs.YtaaogjhaokaggaaGreatDoor
