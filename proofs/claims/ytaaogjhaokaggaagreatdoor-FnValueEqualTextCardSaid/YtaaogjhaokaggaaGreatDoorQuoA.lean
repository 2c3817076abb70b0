import Derived.Test.YtaaogjhaokaggaaGreatDoorLawA
import Derived.Lib.BufferRead
namespace Go.Proofs.YtaaogjhaokaggaaGreatDoor
open Go.RowKit

set_option maxHeartbeats 400000 in
theorem isPrint_yes (r : Int) (h0 : 32 ≤ r) (h1 : r ≤ 126) (w : World) :
    Calls Tryz.prog 192 #[.int .i32 r] w fun e w' => e = .returned (.bool true) ∧ w = w' := by
  go_enter Tryz.func192, Tryz.ntmps192
  go_wp2
  go_ret
  exact ⟨rfl, rfl⟩

set_option maxHeartbeats 400000 in
theorem isPrint_no (r : Int) (h0 : 0 ≤ r) (h1 : r ≤ 31) (w : World) :
    Calls Tryz.prog 192 #[.int .i32 r] w fun e w' => e = .returned (.bool false) ∧ w = w' := by
  go_enter Tryz.func192, Tryz.ntmps192
  go_wp2
  go_ret
  exact ⟨rfl, rfl⟩

set_option maxHeartbeats 400000 in
theorem appendRune_ascii (r : Int) (c : UInt8) (hc : r = (c.toNat : Int)) (h0 : 0 ≤ r) (h1 : r ≤ 127) (buf : Value) (l : List UInt8) (w : World) (hl : l.length ≤ 1000) (hB : Own w 5 buf l) :
    Calls Tryz.prog 194 #[buf, .int .i32 r] w (App w buf (l ++ [c])) := by
  have HB := Lib.hid hB; clear hB
  have HC := Lib.hid hc; clear hc
  go_enter Tryz.func194, Tryz.ntmps194
  go_wp2_with (at_builtin; refine wpApp1 _ rfl (.tmp 8) (.tmp 11) rfl buf l _ c HC.out rfl rfl HB.out (by omega) ?_)
  intro v' w' ho hs
  go_wp2
  go_ret
  exact App.mk ho hs
theorem validRune_ascii (r : Int) (h0 : 0 ≤ r) (h1 : r ≤ 127) (w : World) :
    Calls Tryz.prog 190 #[.int .i32 r] w fun e w' => e = .returned (.bool true) ∧ w = w' := by
  go_enter Tryz.func190, Tryz.ntmps190
  go_wp2
  go_ret
  exact ⟨rfl, rfl⟩

set_option maxHeartbeats 1000000 in
theorem escRune_plain (r : Int) (c : UInt8) (hc : r = (c.toNat : Int)) (h0 : 32 ≤ r) (h1 : r ≤ 126) (h39 : ¬ r = 39) (h92 : ¬ r = 92) (buf : Value) (l : List UInt8) (w : World) (hl : l.length ≤ 900) (hB : Own w 5 buf l) :
    Calls Tryz.prog 191 #[buf, .int .i32 r, .int .u8 39, .bool false, .bool false] w (App w buf (l ++ [c])) := by
  have HB := Lib.hid hB; clear hB
  have HC := Lib.hid hc; clear hc
  have b39 : (r == 39) = false := by rw [beq_eq_false_iff_ne]; exact h39
  have b92 : (r == 92) = false := by rw [beq_eq_false_iff_ne]; exact h92
  go_enter Tryz.func191, Tryz.ntmps191
  go_wp2_with (first
    | (go_at_call 192; refine (isPrint_yes r h0 h1 _).mono ?_; rintro e w' ⟨rfl, rfl⟩)
    | (go_at_call 194; refine (appendRune_ascii r c HC.out (by omega) (by omega) buf l _ (by omega) HB.out).mono ?_; rintro e w' ⟨d', rfl, ho, hs⟩))
  go_ret
  exact App.mk ho hs

set_option maxRecDepth 100000 in
set_option maxHeartbeats 1000000 in
theorem escRune_back (buf : Value) (l : List UInt8) (w : World) (hl : l.length ≤ 900) (hB : Own w 5 buf l) :
    Calls Tryz.prog 191 #[buf, .int .i32 92, .int .u8 39, .bool false, .bool false] w (App w buf (l ++ [92, 92])) := by
  have HB := Lib.hid hB; clear hB
  go_enter Tryz.func191, Tryz.ntmps191
  go_wp2_with (first
    | (at_builtin; refine wpApp1 (o := ⟨some 23, _, _, _, _, _⟩) _ rfl (.tmp 21) (.tmp 22) rfl buf l _ 92 rfl rfl rfl HB.out (by omega) ?_; intro v1 w1 ho1 hs1; have HO1 := Lib.hid ho1; clear ho1)
    | (at_builtin; refine wpApp1 (o := ⟨some 28, _, _, _, _, _⟩) w1 rfl (.tmp 24) (.tmp 27) rfl v1 (l ++ [92]) _ 92 rfl rfl rfl HO1.out (by simp; omega) ?_; intro v2 w2 ho2 hs2))
  go_ret
  exact App.mk (by simpa using ho2) (hs1.trans hs2)

theorem escRune_ctl_lf (buf : Value) (l : List UInt8) (w : World) (hl : l.length ≤ 900) (hB : Own w 5 buf l) :
    Calls Tryz.prog 191 #[buf, .int .i32 10, .int .u8 39, .bool false, .bool false] w (App w buf (l ++ [92, 110])) := by
  have HB := Lib.hid hB; clear hB
  go_enter Tryz.func191, Tryz.ntmps191
  go_wp2_with (first
    | (go_at_call 192; refine (isPrint_no 10 (by omega) (by omega) _).mono ?_; rintro e w' ⟨rfl, rfl⟩)
    | (at_builtin; refine wpAppS _ rfl (.tmp 130) (.const (.string ⟨#[92, 110]⟩)) 9 rfl buf l [92, 110] _ rfl rfl HB.out (srcStr _ ⟨#[92, 110]⟩) (by simp; omega) ?_; intro v1 w1 ho1 hs1))
  go_ret
  exact App.mk ho1 hs1
theorem escRune_ctl_cr (buf : Value) (l : List UInt8) (w : World) (hl : l.length ≤ 900) (hB : Own w 5 buf l) :
    Calls Tryz.prog 191 #[buf, .int .i32 13, .int .u8 39, .bool false, .bool false] w (App w buf (l ++ [92, 114])) := by
  have HB := Lib.hid hB; clear hB
  go_enter Tryz.func191, Tryz.ntmps191
  go_wp2_with (first
    | (go_at_call 192; refine (isPrint_no 13 (by omega) (by omega) _).mono ?_; rintro e w' ⟨rfl, rfl⟩)
    | (at_builtin; refine wpAppS _ rfl (.tmp 134) (.const (.string ⟨#[92, 114]⟩)) 9 rfl buf l [92, 114] _ rfl rfl HB.out (srcStr _ ⟨#[92, 114]⟩) (by simp; omega) ?_; intro v1 w1 ho1 hs1))
  go_ret
  exact App.mk ho1 hs1
theorem escRune_ctl_tab (buf : Value) (l : List UInt8) (w : World) (hl : l.length ≤ 900) (hB : Own w 5 buf l) :
    Calls Tryz.prog 191 #[buf, .int .i32 9, .int .u8 39, .bool false, .bool false] w (App w buf (l ++ [92, 116])) := by
  have HB := Lib.hid hB; clear hB
  go_enter Tryz.func191, Tryz.ntmps191
  go_wp2_with (first
    | (go_at_call 192; refine (isPrint_no 9 (by omega) (by omega) _).mono ?_; rintro e w' ⟨rfl, rfl⟩)
    | (at_builtin; refine wpAppS _ rfl (.tmp 138) (.const (.string ⟨#[92, 116]⟩)) 9 rfl buf l [92, 116] _ rfl rfl HB.out (srcStr _ ⟨#[92, 116]⟩) (by simp; omega) ?_; intro v1 w1 ho1 hs1))
  go_ret
  exact App.mk ho1 hs1

/-- THE RUNES THAT AN ESCAPER HOLDS, and what QuoteRune makes of each, between its quotes. -/
def qOf (c : UInt8) : Option (List UInt8) :=
  if c = 92 then some [92, 92] else if c = 10 then some [92, 110] else if c = 13 then some [92, 114] else if c = 9 then some [92, 116] else if 32 ≤ c ∧ c ≤ 126 ∧ c ≠ 39 then some [c] else none

theorem escRune_any (c : UInt8) (q : List UInt8) (hq : qOf c = some q) (buf : Value) (l : List UInt8) (w : World) (hl : l.length ≤ 900) (hB : Own w 5 buf l) :
    Calls Tryz.prog 191 #[buf, .int .i32 (c.toNat : Int), .int .u8 39, .bool false, .bool false] w (App w buf (l ++ q)) := by
  unfold qOf at hq
  split at hq
  · subst_vars; cases hq; exact escRune_back buf l w hl hB
  split at hq
  · subst_vars; cases hq; exact escRune_ctl_lf buf l w hl hB
  split at hq
  · subst_vars; cases hq; exact escRune_ctl_cr buf l w hl hB
  split at hq
  · subst_vars; cases hq; exact escRune_ctl_tab buf l w hl hB
  split at hq
  · rename_i h92 _ _ _ h
    cases hq
    obtain ⟨h1, h2, h3⟩ := h
    have k1 := UInt8.le_iff_toNat_le.1 h1
    have k2 := UInt8.le_iff_toNat_le.1 h2
    simp only [UInt8.toNat_ofNat] at k1 k2
    exact escRune_plain _ c rfl (by omega) (by omega) (fun h => h3 (UInt8.toNat_inj.1 (by simp only [UInt8.toNat_ofNat]; omega))) (fun h => h92 (UInt8.toNat_inj.1 (by simp only [UInt8.toNat_ofNat]; omega))) buf l w hl hB
  · cases hq
theorem qOf_le (c : UInt8) (q : List UInt8) (hq : qOf c = some q) : c.toNat ≤ 126 ∧ q.length ≤ 2 := by
  unfold qOf at hq
  split at hq
  · subst_vars; cases hq; decide
  split at hq
  · subst_vars; cases hq; decide
  split at hq
  · subst_vars; cases hq; decide
  split at hq
  · subst_vars; cases hq; decide
  split at hq
  · rename_i h
    cases hq
    have k2 := UInt8.le_iff_toNat_le.1 h.2.1
    simp only [UInt8.toNat_ofNat] at k2
    exact ⟨by omega, by simp⟩
  · cases hq

set_option maxHeartbeats 1000000 in
theorem appQuoted_any (c : UInt8) (q : List UInt8) (hq : qOf c = some q) (w : World) :
    Calls Tryz.prog 184 #[.slice none 0 0, .int .i32 (c.toNat : Int), .int .u8 39, .bool false, .bool false] w (App w (.slice none 0 0) ([39] ++ q ++ [39])) := by
  obtain ⟨hc, hl⟩ := qOf_le c q hq
  obtain ⟨r, hr⟩ : ∃ r : Int, r = (c.toNat : Int) := ⟨_, rfl⟩
  rw [← hr]
  have h0 : 0 ≤ r := by omega
  have h1 : r ≤ 127 := by omega
  have HR := Lib.hid hr; clear hr hc
  have HQ := Lib.hid hq; clear hq
  go_enter Tryz.func184, Tryz.ntmps184
  go_wp2_with (first
    | (at_builtin; refine wpApp1 (o := ⟨some 14, _, _, _, _, _⟩) _ rfl (.tmp 11) (.tmp 13) rfl (.slice none 0 0) [] _ 39 rfl rfl rfl (Own.nil _ _) (by simp) ?_; intro v1 w1 ho1 hs1; have HO1 := Lib.hid ho1; clear ho1)
    | (go_at_call 190; refine (validRune_ascii r h0 h1 _).mono ?_; rintro e w' ⟨rfl, rfl⟩)
    | (go_at_call 191; rw [HR.out]; refine (escRune_any c q HQ.out v1 _ _ (by simp) HO1.out).mono ?_; rintro e w2 ⟨v2, rfl, ho2, hs2⟩; have HO2 := Lib.hid ho2; clear ho2)
    | (at_builtin; refine wpApp1 (o := ⟨some 27, _, _, _, _, _⟩) _ rfl (.tmp 24) (.tmp 26) rfl v2 _ _ 39 rfl rfl rfl HO2.out (by simp; omega) ?_; intro v3 w3 ho3 hs3))
  go_ret
  exact App.mk (by simpa using ho3) ((hs1.trans hs2).trans hs3)
end Go.Proofs.YtaaogjhaokaggaaGreatDoor
namespace Go.Proofs.YtaaogjhaokaggaaGreatDoor
open Go.RowKit

/-- string(b) of an owned row of bytes. -/
theorem conv_own {w : World} {v : Value} {l : List UInt8} (h : Own w 5 v l) : (convert 66 9 v).run Tryz.prog w = .ok (.string ⟨l.toArray⟩) w := by
  rcases h with ⟨rfl, rfl⟩ | ⟨g, cap, rfl, hr⟩
  · exact Lib.run_convert_nil_bytes w 66 9 5 0 u66 Tryz.underlying5 u9
  · exact run_convert_bytes_back (P := Tryz.prog) w 66 9 5 ⟨g, 0, none⟩ cap l u66 Tryz.underlying5 u9 (fun j hj => by
      have hadd : (⟨g, 0, none⟩ : Addr).add j = ⟨g, j, none⟩ := by unfold Addr.add; split <;> simp_all
      rw [hadd, hr.cell hj]; rfl)

set_option maxHeartbeats 400000 in
theorem quoteRuneWith_any (c : UInt8) (q : List UInt8) (hq : qOf c = some q) (w : World) :
    Calls Tryz.prog 162 #[.int .i32 (c.toNat : Int), .int .u8 39, .bool false, .bool false] w fun e w' => e = .returned (.string ⟨([39] ++ q ++ [39]).toArray⟩) ∧ Fr [] w w' := by
  have HQ := Lib.hid hq; clear hq
  obtain ⟨r, hr⟩ : ∃ r : Int, r = (c.toNat : Int) := ⟨_, rfl⟩
  rw [← hr]
  have HR := Lib.hid hr; clear hr
  obtain ⟨S, hS⟩ : ∃ S : ByteArray, S = ⟨([39] ++ q ++ [39]).toArray⟩ := ⟨_, rfl⟩
  rw [← hS]
  have HS := Lib.hid hS; clear hS
  go_enter Tryz.func162, Tryz.ntmps162
  go_wp2_with (go_at_call 184; rw [HR.out]; refine (appQuoted_any c q HQ.out _).mono ?_; rintro e w1 ⟨v1, rfl, ho1, hs1⟩; have hcv := conv_own ho1; rw [← HS.out] at hcv; have HO1 := Lib.hid ho1; clear ho1)
  go_ret
  exact ⟨rfl, hs1.1.sub (by simp [Value.ownBlock])⟩

set_option maxHeartbeats 400000 in
theorem quoteRune_any (c : UInt8) (q : List UInt8) (hq : qOf c = some q) (w : World) :
    Calls Tryz.prog 132 #[.int .i32 (c.toNat : Int)] w fun e w' => e = .returned (.string ⟨([39] ++ q ++ [39]).toArray⟩) ∧ Fr [] w w' := by
  have HQ := Lib.hid hq; clear hq
  obtain ⟨r, hr⟩ : ∃ r : Int, r = (c.toNat : Int) := ⟨_, rfl⟩
  rw [← hr]
  have HR := Lib.hid hr; clear hr
  obtain ⟨S, hS⟩ : ∃ S : ByteArray, S = ⟨([39] ++ q ++ [39]).toArray⟩ := ⟨_, rfl⟩
  rw [← hS]
  have HS := Lib.hid hS; clear hS
  go_enter Tryz.func132, Tryz.ntmps132
  go_wp2_with (go_at_call 162; rw [HR.out]; refine (quoteRuneWith_any c q HQ.out _).mono ?_; rintro e w1 ⟨rfl, hs1⟩; rw [← HS.out])
  go_ret
  exact ⟨rfl, hs1⟩

theorem trim_one (x : UInt8) (hx : x ≠ 92) (w : World) :
    Calls Tryz.prog 133 #[.string ⟨#[x]⟩, .string ⟨#[92]⟩] w fun e w' => e = .returned (.string ⟨#[x]⟩) ∧ w = w' := by
  have hb : (((⟨#[x]⟩ : ByteArray).extract 0 1).toList == [92]) = false := by
    rw [ByteArray.toList_eq, ByteArray.data_extract]; simp [hx]
  go_enter Tryz.func133, Tryz.ntmps133
  go_wp2
  go_ret
  exact ⟨rfl, rfl⟩
theorem trim_two (x : UInt8) (w : World) :
    Calls Tryz.prog 133 #[.string ⟨#[92, x]⟩, .string ⟨#[92]⟩] w fun e w' => e = .returned (.string ⟨#[x]⟩) ∧ w = w' := by
  have hb : (((⟨#[92, x]⟩ : ByteArray).extract 0 1).toList == [92]) = true := by
    rw [ByteArray.toList_eq, ByteArray.data_extract]; simp
  have he : (⟨#[92, x]⟩ : ByteArray).extract 1 2 = ⟨#[x]⟩ := by
    apply ByteArray.ext
    rw [ByteArray.data_extract]; simp
  go_enter Tryz.func133, Tryz.ntmps133
  go_wp2

  go_ret
  exact ⟨rfl, rfl⟩
end Go.Proofs.YtaaogjhaokaggaaGreatDoor
