/- PROVED HERE: %f of the digits (internal/strconv.fmtEFG), sign false. CONDITIONS: those ahead of each theorem. -/
import Derived.Test.YtpkkgngpjeoffaaGreatDoorFrA
import Derived.Deep.DeepCutAuto
namespace Go.Proofs.YtpkkgngpjeoffaaGreatDoor
open Go.RowKit


set_option maxRecDepth 100000 in
set_option maxHeartbeats 2000000 in
theorem ff_f0 (buf : Value) (l : List UInt8) (w : World) (hO : Own w 5 buf l) (hl : l.length ≤ 900000000) :
    Calls Tryz.prog 127 #[buf, .bool false, .slice none 0 0, .int .i64 0, .int .i64 0, .int .i64 (-1), .int .u8 102, .bool true] w (App w buf (l ++ fText false [] 0)) := by
  obtain ⟨R, hR⟩ : ∃ R, R = l ++ fText false [] 0 := ⟨_, rfl⟩
  have HT : Hid ((l ++ [48]) = R) := Lib.hid (by
    rw [hR]; simp [fText])
  rw [← hR]; clear hR
  have HN : Hid True := Lib.hid trivial
  have HO := Lib.hid hO; clear hO
  have HS0 : Hid (Stp w w buf buf) := Lib.hid (Stp.refl _ _)
  have HL := Lib.hid hl; clear hl
  go_enter Tryz.func127, Tryz.ntmps127
  go_wp2_with (first
    | (at_builtin; refine wpApp1 _ (o := ⟨some 211, _, _, _, _, _⟩) rfl (.tmp 209) (.tmp 210) rfl buf l _ 48 rfl rfl rfl HO.out (by have := HL.out; have := HN.out; simp; try omega) ?_; intro v1 w1 ho1 hs1; have HO1 := Lib.hid ho1; have HS1 := Lib.hid hs1; clear ho1 hs1))
  go_ret
  rw [← HT.out]
  exact App.mk HO1.out HS1.out
set_option maxRecDepth 100000 in
set_option maxHeartbeats 2000000 in
theorem ff_fb (buf : Value) (l : List UInt8) (w : World) (g : Nat) (hO : Own w 5 buf l) (hl : l.length ≤ 900000000) :
    Calls Tryz.prog 127 #[buf, .bool false, .slice (some ⟨g, 0, none⟩) 32 32, .int .i64 0, .int .i64 0, .int .i64 0, .int .u8 102, .bool true] w (App w buf (l ++ fText false [] 0)) := by
  obtain ⟨R, hR⟩ : ∃ R, R = l ++ fText false [] 0 := ⟨_, rfl⟩
  have HT : Hid ((l ++ [48]) = R) := Lib.hid (by
    rw [hR]; simp [fText])
  rw [← hR]; clear hR
  have HN : Hid True := Lib.hid trivial
  have HO := Lib.hid hO; clear hO
  have HS0 : Hid (Stp w w buf buf) := Lib.hid (Stp.refl _ _)
  have HL := Lib.hid hl; clear hl
  go_enter Tryz.func127, Tryz.ntmps127
  go_wp2_with (first
    | (at_builtin; refine wpApp1 _ (o := ⟨some 211, _, _, _, _, _⟩) rfl (.tmp 209) (.tmp 210) rfl buf l _ 48 rfl rfl rfl HO.out (by have := HL.out; have := HN.out; simp; try omega) ?_; intro v1 w1 ho1 hs1; have HO1 := Lib.hid ho1; have HS1 := Lib.hid hs1; clear ho1 hs1))
  go_ret
  rw [← HT.out]
  exact App.mk HO1.out HS1.out
set_option maxRecDepth 100000 in
set_option maxHeartbeats 2000000 in
theorem ff_f1 (buf : Value) (l : List UInt8) (w : World) (g : Nat) (ds : List UInt8) (n D : Nat) (hn : ds.length = n) (h1 : n ≤ D) (h32 : n ≤ 32) (hD0 : 1 ≤ D) (hD6 : D ≤ 1000) (hO : Own w 5 buf l) (hl : l.length ≤ 900000000) (hD : Dg w g ds) (hg : buf.ownBlock ≠ some g) :
    Calls Tryz.prog 127 #[buf, .bool false, .slice (some ⟨g, 0, none⟩) 32 32, .int .i64 (D : Int), .int .i64 (n : Int), .int .i64 0, .int .u8 102, .bool true] w (App w buf (l ++ fText false ds (D : Int))) := by
  obtain ⟨R, hR⟩ : ∃ R, R = l ++ fText false ds (D : Int) := ⟨_, rfl⟩
  have HT : Hid (((l ++ ds) ++ List.replicate (D - n) 48) = R) := Lib.hid (by
    rw [hR]; unfold fText
    have e : (D : Int).toNat = D := rfl
    rw [if_pos (show (0 : Int) < D by omega), if_neg (show ¬ (D : Int) < ds.length by omega), e, List.take_of_length_le (by omega)]
    simp [hn])
  rw [← hR]; clear hR
  have hng : decide ((n : Int) > (D : Int)) = false := decide_eq_false (by omega)
  have hng2 : decide (D < n) = false := decide_eq_false (by omega)
  have hmin : min (n : Int) (D : Int) = (n : Int) := by omega
  have hmax : max ((n : Int) - (D : Int)) 0 = 0 := by omega
  have hd0 : decide ((D : Int) > 0) = true := decide_eq_true (by omega)
  have hd1 : decide (0 < D) = true := decide_eq_true (by omega)
  have HN := Lib.hid hn; clear hn
  have HD := Lib.hid hD; clear hD
  have HG := Lib.hid hg; clear hg
  have HO := Lib.hid hO; clear hO
  have HS0 : Hid (Stp w w buf buf) := Lib.hid (Stp.refl _ _)
  have HL := Lib.hid hl; clear hl
  go_enter Tryz.func127, Tryz.ntmps127
  go_wp2_with fail
  go_loopw [0, 191] (fun v i wr1 => ∃ j : Nat, j ≤ n ∧ i = .int .i64 j ∧ Hid (Own wr1 5 v (l ++ (ds).take j) ∧ Stp w wr1 buf v)) (fun _ i _ => n - (intOf i).toNat)
  case atStart => exact ⟨0, Nat.zero_le _, rfl, Lib.hid ⟨by simpa using HO.out, HS0.out⟩⟩
  case round =>
    obtain ⟨j1, hj1, rfl, H1⟩ := hrel
    by_cases hlt1 : j1 < n
    · have hc := (HD.out.stp H1.out.2 HG.out).cell (i := j1) (by have := HN.out; omega)
      obtain ⟨c, hcc⟩ : ∃ c, c = ds[j1]'(by have := HN.out; omega) := ⟨_, rfl⟩
      rw [← hcc] at hc
      have HC : Hid (ds.take (j1 + 1) = ds.take j1 ++ [c]) := Lib.hid (by rw [hcc]; exact List.take_succ_eq_append_getElem _)
      obtain ⟨CI, hCI⟩ : ∃ CI : Int, CI = (c.toNat : Int) := ⟨_, rfl⟩
      have HCI : Hid (CI = (c.toNat : Int)) := Lib.hid hCI
      rw [show bv c = .int .u8 CI by rw [hCI]; rfl] at hc
      clear hcc hCI
      go_wp2_with (at_builtin; refine wpApp1 _ (o := ⟨some 198, _, _, _, _, _⟩) rfl (.tmp 195) (.tmp 197) rfl u0 (l ++ ((ds).take j1)) _ c HCI.out rfl rfl H1.out.1 (by have := HL.out; have := HN.out; simp; try omega) ?_; intro vx1 wx1 ho hs; have HOx1 := Lib.hid ho; have HSx1 := Lib.hid (H1.out.2.trans hs); clear ho hs)
      go_roundw
      case rel => exact ⟨j1 + 1, by omega, by go_num, Lib.hid ⟨by rw [HC.out, ← List.append_assoc]; exact HOx1.out, HSx1.out⟩⟩
      case measure => simp [intOf]; omega
    · have hE1 : Own wr 5 u0 (l ++ ds) := by have h9 := H1.out.1; rw [show j1 = n by omega] at h9; rw [show (ds).take n = ds from List.take_of_length_le (by have := HN.out; simp; try omega)] at h9; exact h9
      have HE1 := Lib.hid hE1; clear hE1
      go_wp2_with fail
      go_loopw [0, 203] (fun v i wr2 => ∃ j : Nat, j ≤ (D - n) ∧ i = .int .i64 j ∧ Hid (Own wr2 5 v ((l ++ ds) ++ List.replicate j 48) ∧ Stp w wr2 buf v)) (fun _ i _ => (D - n) - (intOf i).toNat)
      case atStart => exact ⟨0, Nat.zero_le _, rfl, Lib.hid ⟨by simpa using HE1.out, H1.out.2⟩⟩
      case round =>
        obtain ⟨j2, hj2, rfl, H2⟩ := hrel
        by_cases hlt2 : j2 < (D - n)
        · go_wp2_with (at_builtin; refine wpApp1 _ (o := ⟨some 207, _, _, _, _, _⟩) rfl (.tmp 205) (.tmp 206) rfl u0 (((l ++ ds) ++ List.replicate j2 48)) _ 48 rfl rfl rfl H2.out.1 (by have := HL.out; have := HN.out; simp; try omega) ?_; intro vx2 wx2 ho hs; have HOx2 := Lib.hid ho; have HSx2 := Lib.hid (H2.out.2.trans hs); clear ho hs)
          go_roundw
          case rel => exact ⟨j2 + 1, by omega, by go_num, Lib.hid ⟨by rw [List.replicate_succ', ← List.append_assoc]; exact HOx2.out, HSx2.out⟩⟩
          case measure => simp [intOf]; omega
        · have hE2 : Own wr 5 u0 ((l ++ ds) ++ List.replicate ((D - n)) 48) := by have h9 := H2.out.1; rw [show j2 = (D - n) by omega] at h9; exact h9
          have HE2 := Lib.hid hE2; clear hE2
          go_wp2_with fail
          go_ret
          rw [← HT.out]
          exact App.mk HE2.out H2.out.2
set_option maxRecDepth 100000 in
set_option maxHeartbeats 2000000 in
theorem ff_f2 (buf : Value) (l : List UInt8) (w : World) (g : Nat) (ds : List UInt8) (n D q : Nat) (hn : ds.length = n) (h1 : n = D + q) (hq : 1 ≤ q) (hD0 : 1 ≤ D) (hD6 : D ≤ 1000) (h32 : n ≤ 32) (hO : Own w 5 buf l) (hl : l.length ≤ 900000000) (hD : Dg w g ds) (hg : buf.ownBlock ≠ some g) :
    Calls Tryz.prog 127 #[buf, .bool false, .slice (some ⟨g, 0, none⟩) 32 32, .int .i64 (D : Int), .int .i64 (n : Int), .int .i64 (q : Int), .int .u8 102, .bool true] w (App w buf (l ++ fText false ds (D : Int))) := by
  obtain ⟨R, hR⟩ : ∃ R, R = l ++ fText false ds (D : Int) := ⟨_, rfl⟩
  have HT : Hid ((((l ++ ds.take D) ++ [46]) ++ ds.drop D) = R) := Lib.hid (by
    rw [hR]; unfold fText
    have e : (D : Int).toNat = D := rfl
    have e2 : (-(D : Int)).toNat = 0 := by omega
    rw [if_pos (show (0 : Int) < D by omega), if_pos (show (D : Int) < ds.length by omega), e, e2, show D - ds.length = 0 by omega]
    simp)
  rw [← hR]; clear hR
  have hmin : min (n : Int) (D : Int) = (D : Int) := by omega
  have hmax : max ((n : Int) - (D : Int)) 0 = (q : Int) := by omega
  have hmax2 : max 0 (-(D : Int)) = 0 := by omega
  have hmin2 : min (q : Int) 0 = 0 := by omega
  have hmax3 : max 0 ((n : Int) - (D : Int)) = (q : Int) := by omega
  have hdn : decide ((n : Int) > (D : Int)) = true := decide_eq_true (by omega)
  have hdn2 : decide (D < n) = true := decide_eq_true (by omega)
  have hdq : decide ((q : Int) > 0) = true := decide_eq_true (by omega)
  have hdq2 : decide (0 < q) = true := decide_eq_true (by omega)
  have hd0 : decide ((D : Int) > 0) = true := decide_eq_true (by omega)
  have hd1 : decide (0 < D) = true := decide_eq_true (by omega)
  have HNQ := Lib.hid h1; have hb2 : n = n := rfl; clear hb2 h1
  have HN := Lib.hid hn; clear hn
  have HD := Lib.hid hD; clear hD
  have HG := Lib.hid hg; clear hg
  have HO := Lib.hid hO; clear hO
  have HS0 : Hid (Stp w w buf buf) := Lib.hid (Stp.refl _ _)
  have HL := Lib.hid hl; clear hl
  go_enter Tryz.func127, Tryz.ntmps127
  go_wp2_with fail
  go_loopw [0, 191] (fun v i wr1 => ∃ j : Nat, j ≤ D ∧ i = .int .i64 j ∧ Hid (Own wr1 5 v (l ++ (ds).take j) ∧ Stp w wr1 buf v)) (fun _ i _ => D - (intOf i).toNat)
  case atStart => exact ⟨0, Nat.zero_le _, rfl, Lib.hid ⟨by simpa using HO.out, HS0.out⟩⟩
  case round =>
    obtain ⟨j1, hj1, rfl, H1⟩ := hrel
    by_cases hlt1 : j1 < D
    · have hc := (HD.out.stp H1.out.2 HG.out).cell (i := j1) (by have := HN.out; omega)
      obtain ⟨c, hcc⟩ : ∃ c, c = ds[j1]'(by have := HN.out; omega) := ⟨_, rfl⟩
      rw [← hcc] at hc
      have HC : Hid (ds.take (j1 + 1) = ds.take j1 ++ [c]) := Lib.hid (by rw [hcc]; exact List.take_succ_eq_append_getElem _)
      obtain ⟨CI, hCI⟩ : ∃ CI : Int, CI = (c.toNat : Int) := ⟨_, rfl⟩
      have HCI : Hid (CI = (c.toNat : Int)) := Lib.hid hCI
      rw [show bv c = .int .u8 CI by rw [hCI]; rfl] at hc
      clear hcc hCI
      go_wp2_with (at_builtin; refine wpApp1 _ (o := ⟨some 198, _, _, _, _, _⟩) rfl (.tmp 195) (.tmp 197) rfl u0 (l ++ ((ds).take j1)) _ c HCI.out rfl rfl H1.out.1 (by have := HL.out; have := HN.out; simp; try omega) ?_; intro vx1 wx1 ho hs; have HOx1 := Lib.hid ho; have HSx1 := Lib.hid (H1.out.2.trans hs); clear ho hs)
      go_roundw
      case rel => exact ⟨j1 + 1, by omega, by go_num, Lib.hid ⟨by rw [HC.out, ← List.append_assoc]; exact HOx1.out, HSx1.out⟩⟩
      case measure => simp [intOf]; omega
    · have hE1 : Own wr 5 u0 (l ++ (ds.take D)) := by have h9 := H1.out.1; rw [show j1 = D by omega] at h9; exact h9
      have HE1 := Lib.hid hE1; clear hE1
      go_wp2_with fail
      refine wp_loop_rounds 1 ?_
      rw [rounds_succ]
      go_wp2_with (first
        | (at_builtin; refine wpApp1 _ (o := ⟨some 216, _, _, _, _, _⟩) rfl (.tmp 214) (.tmp 215) rfl u0 (l ++ (ds.take D)) _ 46 rfl rfl rfl HE1.out (by have := HL.out; have := HN.out; simp; try omega) ?_; intro v2 w2 ho2 hs2; have HO2 := Lib.hid ho2; have HS2 := Lib.hid (H1.out.2.trans hs2); clear ho2 hs2))
      refine wp_loop_rounds 1 ?_
      rw [rounds_succ]
      go_wp2_with fail
      go_loopw [0, 247] (fun v i wr3 => ∃ j : Nat, j ≤ q ∧ i = .int .i64 j ∧ Hid (Own wr3 5 v (((l ++ (ds.take D)) ++ [46]) ++ ((ds.drop D)).take j) ∧ Stp w wr3 buf v)) (fun _ i _ => q - (intOf i).toNat)
      case atStart => exact ⟨0, Nat.zero_le _, rfl, Lib.hid ⟨by simpa using HO2.out, HS2.out⟩⟩
      case round =>
        obtain ⟨j3, hj3, rfl, H3⟩ := hrel
        by_cases hlt3 : j3 < q
        · have hc := (HD.out.stp H3.out.2 HG.out).cell (i := D + j3) (by have := HN.out; have := HNQ.out; omega)
          obtain ⟨c, hcc⟩ : ∃ c, c = ds[D + j3]'(by have := HN.out; have := HNQ.out; omega) := ⟨_, rfl⟩
          rw [← hcc] at hc
          have HC : Hid (((ds.drop D)).take (j3 + 1) = ((ds.drop D)).take j3 ++ [c]) := Lib.hid (by rw [hcc, List.take_succ_eq_append_getElem (by have := HN.out; have := HNQ.out; simp; omega), List.getElem_drop])
          obtain ⟨CI, hCI⟩ : ∃ CI : Int, CI = (c.toNat : Int) := ⟨_, rfl⟩
          have HCI : Hid (CI = (c.toNat : Int)) := Lib.hid hCI
          rw [show bv c = .int .u8 CI by rw [hCI]; rfl] at hc
          clear hcc hCI
          go_wp2_with (at_builtin; refine wpApp1 _ (o := ⟨some 258, _, _, _, _, _⟩) rfl (.tmp 250) (.tmp 257) rfl u0 (((l ++ (ds.take D)) ++ [46]) ++ (((ds.drop D)).take j3)) _ c HCI.out rfl rfl H3.out.1 (by have := HL.out; have := HN.out; simp; try omega) ?_; intro vx3 wx3 ho hs; have HOx3 := Lib.hid ho; have HSx3 := Lib.hid (H3.out.2.trans hs); clear ho hs)
          go_roundw
          case rel => exact ⟨j3 + 1, by omega, by go_num, Lib.hid ⟨by rw [HC.out, ← List.append_assoc]; exact HOx3.out, HSx3.out⟩⟩
          case measure => simp [intOf]; omega
        · have hE3 : Own wr 5 u0 (((l ++ (ds.take D)) ++ [46]) ++ (ds.drop D)) := by have h9 := H3.out.1; rw [show j3 = q by omega] at h9; rw [show ((ds.drop D)).take q = (ds.drop D) from List.take_of_length_le (by have := HN.out; have := HNQ.out; simp; try omega)] at h9; exact h9
          have HE3 := Lib.hid hE3; clear hE3
          go_wp2_with fail
          (try (refine wp_loop_rounds 1 ?_; rw [rounds_succ]; go_wp2_with fail))
          go_ret
          rw [← HT.out]
          exact App.mk HE3.out H3.out.2
set_option maxRecDepth 100000 in
set_option maxHeartbeats 2000000 in
theorem ff_f3 (buf : Value) (l : List UInt8) (w : World) (g : Nat) (ds : List UInt8) (n Z m : Nat) (dp : Int) (hn : ds.length = n) (hdp : dp = -(Z : Int)) (hm : m = n + Z) (hm1 : 1 ≤ m) (hz : Z ≤ 1000) (h32 : n ≤ 32) (hO : Own w 5 buf l) (hl : l.length ≤ 900000000) (hD : Dg w g ds) (hg : buf.ownBlock ≠ some g) :
    Calls Tryz.prog 127 #[buf, .bool false, .slice (some ⟨g, 0, none⟩) 32 32, .int .i64 dp, .int .i64 (n : Int), .int .i64 (m : Int), .int .u8 102, .bool true] w (App w buf (l ++ fText false ds dp)) := by
  obtain ⟨R, hR⟩ : ∃ R, R = l ++ fText false ds dp := ⟨_, rfl⟩
  have HT : Hid (((((l ++ [48]) ++ [46]) ++ List.replicate Z 48) ++ ds) = R) := Lib.hid (by
    rw [hR]; unfold fText
    have e : dp.toNat = 0 := by omega
    have e2 : (-dp).toNat = Z := by omega
    rw [if_neg (show ¬ 0 < dp by omega), if_pos (show dp < ds.length by omega), e, e2]
    simp)
  rw [← hR]; clear hR
  have e1 : -dp = (Z : Int) := by omega
  have e2 : dp + (Z : Int) = 0 := by omega
  have e3 : max ((n : Int) - dp) 0 = (m : Int) := by omega
  have e4 : max 0 (Z : Int) = (Z : Int) := by omega
  have e5 : min (m : Int) (Z : Int) = (Z : Int) := by omega
  have e6 : (m : Int) - (Z : Int) = (n : Int) := by omega
  have e7 : max 0 (n : Int) = (n : Int) := by omega
  have b0 : -1000 ≤ dp := by omega
  have b1 : dp ≤ 0 := by omega
  have hdn : decide ((n : Int) > dp) = true := decide_eq_true (by omega)
  have hdd : decide (dp > 0) = false := decide_eq_false (by omega)
  have hdm : decide ((m : Int) > 0) = true := decide_eq_true (by omega)
  have hdm2 : decide (0 < m) = true := decide_eq_true (by omega)
  have HDP := Lib.hid hdp; clear hdp
  have HM := Lib.hid hm; clear hm
  have HN := Lib.hid hn; clear hn
  have HD := Lib.hid hD; clear hD
  have HG := Lib.hid hg; clear hg
  have HO := Lib.hid hO; clear hO
  have HS0 : Hid (Stp w w buf buf) := Lib.hid (Stp.refl _ _)
  have HL := Lib.hid hl; clear hl
  go_enter Tryz.func127, Tryz.ntmps127
  go_wp2_with (first
    | (at_builtin; refine wpApp1 _ (o := ⟨some 211, _, _, _, _, _⟩) rfl (.tmp 209) (.tmp 210) rfl buf l _ 48 rfl rfl rfl HO.out (by have := HL.out; have := HN.out; simp; try omega) ?_; intro v1 w1 ho1 hs1; have HO1 := Lib.hid ho1; have HS1 := Lib.hid hs1; clear ho1 hs1)
    | (at_builtin; refine wpApp1 _ (o := ⟨some 216, _, _, _, _, _⟩) rfl (.tmp 214) (.tmp 215) rfl v1 (l ++ [48]) _ 46 rfl rfl rfl HO1.out (by have := HL.out; have := HN.out; simp; try omega) ?_; intro v2 w2 ho2 hs2; have HO2 := Lib.hid ho2; have HS2 := Lib.hid (HS1.out.trans hs2); clear ho2 hs2))
  go_loopw [0, 240] (fun v i wr3 => ∃ j : Nat, j ≤ Z ∧ i = .int .i64 j ∧ Hid (Own wr3 5 v (((l ++ [48]) ++ [46]) ++ List.replicate j 48) ∧ Stp w wr3 buf v)) (fun _ i _ => Z - (intOf i).toNat)
  case atStart => exact ⟨0, Nat.zero_le _, rfl, Lib.hid ⟨by simpa using HO2.out, HS2.out⟩⟩
  case round =>
    obtain ⟨j3, hj3, rfl, H3⟩ := hrel
    by_cases hlt3 : j3 < Z
    · go_wp2_with (at_builtin; refine wpApp1 _ (o := ⟨some 244, _, _, _, _, _⟩) rfl (.tmp 242) (.tmp 243) rfl u0 ((((l ++ [48]) ++ [46]) ++ List.replicate j3 48)) _ 48 rfl rfl rfl H3.out.1 (by have := HL.out; have := HN.out; simp; try omega) ?_; intro vx3 wx3 ho hs; have HOx3 := Lib.hid ho; have HSx3 := Lib.hid (H3.out.2.trans hs); clear ho hs)
      go_roundw
      case rel => exact ⟨j3 + 1, by omega, by go_num, Lib.hid ⟨by rw [List.replicate_succ', ← List.append_assoc]; exact HOx3.out, HSx3.out⟩⟩
      case measure => simp [intOf]; omega
    · have hE3 : Own wr 5 u0 (((l ++ [48]) ++ [46]) ++ List.replicate (Z) 48) := by have h9 := H3.out.1; rw [show j3 = Z by omega] at h9; exact h9
      have HE3 := Lib.hid hE3; clear hE3
      go_wp2_with fail
      go_loopw [0, 247] (fun v i wr4 => ∃ j : Nat, j ≤ n ∧ i = .int .i64 j ∧ Hid (Own wr4 5 v ((((l ++ [48]) ++ [46]) ++ List.replicate (Z) 48) ++ (ds).take j) ∧ Stp w wr4 buf v)) (fun _ i _ => n - (intOf i).toNat)
      case atStart => exact ⟨0, Nat.zero_le _, rfl, Lib.hid ⟨by simpa using HE3.out, H3.out.2⟩⟩
      case round =>
        obtain ⟨j4, hj4, rfl, H4⟩ := hrel
        by_cases hlt4 : j4 < n
        · have hc := (HD.out.stp H4.out.2 HG.out).cell (i := j4) (by have := HN.out; omega)
          obtain ⟨c, hcc⟩ : ∃ c, c = ds[j4]'(by have := HN.out; omega) := ⟨_, rfl⟩
          rw [← hcc] at hc
          have HC : Hid (ds.take (j4 + 1) = ds.take j4 ++ [c]) := Lib.hid (by rw [hcc]; exact List.take_succ_eq_append_getElem _)
          obtain ⟨CI, hCI⟩ : ∃ CI : Int, CI = (c.toNat : Int) := ⟨_, rfl⟩
          have HCI : Hid (CI = (c.toNat : Int)) := Lib.hid hCI
          rw [show bv c = .int .u8 CI by rw [hCI]; rfl] at hc
          clear hcc hCI
          go_wp2_with (at_builtin; refine wpApp1 _ (o := ⟨some 258, _, _, _, _, _⟩) rfl (.tmp 250) (.tmp 257) rfl u0 ((((l ++ [48]) ++ [46]) ++ List.replicate (Z) 48) ++ ((ds).take j4)) _ c HCI.out rfl rfl H4.out.1 (by have := HL.out; have := HN.out; simp; try omega) ?_; intro vx4 wx4 ho hs; have HOx4 := Lib.hid ho; have HSx4 := Lib.hid (H4.out.2.trans hs); clear ho hs)
          go_roundw
          case rel => exact ⟨j4 + 1, by omega, by go_num, Lib.hid ⟨by rw [HC.out, ← List.append_assoc]; exact HOx4.out, HSx4.out⟩⟩
          case measure => simp [intOf]; omega
        · have hE4 : Own wr 5 u0 ((((l ++ [48]) ++ [46]) ++ List.replicate (Z) 48) ++ ds) := by have h9 := H4.out.1; rw [show j4 = n by omega] at h9; rw [show (ds).take n = ds from List.take_of_length_le (by have := HN.out; simp; try omega)] at h9; exact h9
          have HE4 := Lib.hid hE4; clear hE4
          go_wp2_with fail
          (try (refine wp_loop_rounds 1 ?_; rw [rounds_succ]; go_wp2_with fail))
          go_ret
          rw [← HT.out]
          exact App.mk HE4.out H4.out.2
end Go.Proofs.YtpkkgngpjeoffaaGreatDoor
