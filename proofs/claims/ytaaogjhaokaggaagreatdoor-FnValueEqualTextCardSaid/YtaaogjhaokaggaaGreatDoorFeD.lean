import Derived.Test.YtaaogjhaokaggaaGreatDoorFltX
import Derived.Deep.DeepCutAuto
namespace Go.Proofs.YtaaogjhaokaggaaGreatDoor
open Go.RowKit
set_option maxRecDepth 100000 in
set_option maxHeartbeats 2000000 in
theorem fe_f2P1 (buf : Value) (l : List UInt8) (w : World) (g : Nat) (ds : List UInt8) (dp : Int) (c0 : UInt8) (n : Nat) (h2 : 2 ≤ n) (h3 : n ≤ 32) (hn : ds.length = n ∧ ds[0]? = some c0) (hd0 : 7 ≤ dp) (hd1 : dp ≤ 10) (hO : Own w 5 buf l) (hl : l.length ≤ 900000000) (hD : Dg w g ds) (hg : buf.ownBlock ≠ some g) :
    Calls Tryz.prog 139 #[buf, .bool false, .slice (some ⟨g, 0, none⟩) 32 32, .int .i64 dp, .int .i64 n, .int .i64 n, .int .u8 103, .bool true] w (App w buf (l ++ eText false ds dp)) := by
  obtain ⟨x, hx⟩ : ∃ x : Nat, x = (dp - 1).toNat := ⟨_, rfl⟩
  have HX : Hid (x = (dp - 1).toNat) := Lib.hid hx; clear hx
  obtain ⟨R, hR⟩ : ∃ R, R = l ++ eText false ds dp := ⟨_, rfl⟩
  have HT : Hid (((((((l ++ [c0]) ++ [46]) ++ (ds.drop 1)) ++ [101]) ++ [43]) ++ [48, UInt8.ofNat (48 + x)]) = R) := Lib.hid (by
    rw [hR]
    have hx := HX.out
    have hne : ds ≠ [] := by intro h; subst h; have := hn.1; simp at this; omega
    have hhd : ds.headD 48 = c0 := by rw [List.headD_eq_head?_getD, List.head?_eq_getElem?, hn.2]; rfl
    have hhd2 : ds.head?.getD 48 = c0 := by rw [List.head?_eq_getElem?, hn.2]; rfl
    have hab : (dp - 1).natAbs = x := by omega
    unfold eText expD
    simp [List.append_assoc, hhd2, hn.1, h2, hne, show x < 10 by omega, show 1 ≤ dp by omega, hab])
  rw [← hR]; clear hR
  have hDc : w.cell? ⟨g, 0, none⟩ = some (bv c0) := by have := hD.cell (i := 0) (by rw [hn.1]; omega); rw [this]; have h5 := hn.2; rw [List.getElem?_eq_getElem (by rw [hn.1]; omega)] at h5; injection h5 with h5; rw [h5]
  have hlen : ds.length = n := hn.1
  obtain ⟨CI, hCI⟩ : ∃ CI : Int, CI = (c0.toNat : Int) := ⟨_, rfl⟩
  have HCI : Hid (CI = (c0.toNat : Int)) := Lib.hid hCI
  have hDc2 : w.cell? ⟨g, 0, none⟩ = some (.int .u8 CI) := by rw [hDc, hCI]; rfl
  have HDC := Lib.hid hDc2; clear hDc hDc2 hCI
  have hGL := hD.lt
  have HGL := Lib.hid hGL; clear hGL
  have HO := Lib.hid hO; clear hO
  have HD := Lib.hid hD; clear hD
  have HG := Lib.hid hg; clear hg
  have HL := Lib.hid hl; clear hl
  have HLEN := Lib.hid hlen; clear hlen
  have hmin : min (n : Int) ((n : Int) - 1 + 1) = (n : Int) := by omega
  clear hn
  have c9 := HDC.out
  go_enter Tryz.func139, Tryz.ntmps139
  go_wp2_with (first
    | (at_builtin; refine wpApp1 _ (o := ⟨some 90, _, _, _, _, _⟩) rfl (.tmp 87) (.tmp 89) rfl buf l _ c0 HCI.out rfl rfl HO.out (by have := HL.out; simp ; omega) ?_; intro v1 w1 ho1 hs1; have HO1 := Lib.hid ho1; have HS1 := Lib.hid hs1; clear ho1 hs1)
    | (at_builtin; refine wpApp1 _ (o := ⟨some 95, _, _, _, _, _⟩) rfl (.tmp 93) (.tmp 94) rfl v1 (l ++ [c0]) _ 46 rfl rfl rfl HO1.out (by have := HL.out; simp ; omega) ?_; intro v2 w2 ho2 hs2; have HO2 := Lib.hid ho2; have HS2 := Lib.hid (HS1.out.trans hs2); clear ho2 hs2)
    | (at_builtin; refine wpAppS _ (o := ⟨some 108, _, _, _, _, _⟩) rfl (.tmp 103) (.tmp 107) 66 rfl v2 ((l ++ [c0]) ++ [46]) (ds.drop 1) _ rfl rfl HO2.out (Dg.src' (HD.out.stp HS2.out HG.out) HLEN.out (by have := HLEN.out; simp; try omega)) (by have := HL.out; have := HLEN.out; simp ; omega) ?_; intro v3 w3 ho3 hs3; have HO3 := Lib.hid ho3; have HS3 := Lib.hid (HS2.out.trans hs3); clear ho3 hs3))
  refine wp_loop_rounds 1 ?_
  rw [rounds_succ]
  go_wp2_with (first
    | (at_builtin; refine wpApp1 _ (o := ⟨some 123, _, _, _, _, _⟩) rfl (.tmp 120) (.tmp 122) rfl v3 (((l ++ [c0]) ++ [46]) ++ (ds.drop 1)) _ 101 rfl rfl rfl HO3.out (by have := HL.out; simp [HLEN.out]; omega) ?_; intro v4 w4 ho4 hs4; have HO4 := Lib.hid ho4; have HS4 := Lib.hid (HS3.out.trans hs4); clear ho4 hs4)
    | (at_builtin; refine wpApp1 _ (o := ⟨some 135, _, _, _, _, _⟩) rfl (.tmp 132) (.tmp 134) rfl v4 ((((l ++ [c0]) ++ [46]) ++ (ds.drop 1)) ++ [101]) _ 43 rfl rfl rfl HO4.out (by have := HL.out; simp [HLEN.out]; omega) ?_; intro v5 w5 ho5 hs5; have HO5 := Lib.hid ho5; have HS5 := Lib.hid (HS4.out.trans hs5); clear ho5 hs5)
    | (at_builtin; refine wpApp2 _ (o := ⟨some 160, _, _, _, _, _⟩) rfl (.tmp 155) (.tmp 159) rfl v5 (((((l ++ [c0]) ++ [46]) ++ (ds.drop 1)) ++ [101]) ++ [43]) _ _ (48) (UInt8.ofNat (48 + x)) rfl (byteOf (k := 48 + x) (by have := HX.out; omega) (by have := HX.out; omega)) rfl rfl HO5.out (by have := HL.out; have := HLEN.out; simp [HLEN.out]; omega) ?_; intro v6 w6 ho6 hs6; have HO6 := Lib.hid ho6; have HS6 := Lib.hid (HS5.out.trans hs6); clear ho6 hs6))
  go_ret
  rw [← HT.out]
  exact App.mk HO6.out HS6.out
set_option maxRecDepth 100000 in
set_option maxHeartbeats 2000000 in
theorem fe_f2P2 (buf : Value) (l : List UInt8) (w : World) (g : Nat) (ds : List UInt8) (dp : Int) (c0 : UInt8) (n : Nat) (h2 : 2 ≤ n) (h3 : n ≤ 32) (hn : ds.length = n ∧ ds[0]? = some c0) (hd0 : 11 ≤ dp) (hd1 : dp ≤ 100) (hO : Own w 5 buf l) (hl : l.length ≤ 900000000) (hD : Dg w g ds) (hg : buf.ownBlock ≠ some g) :
    Calls Tryz.prog 139 #[buf, .bool false, .slice (some ⟨g, 0, none⟩) 32 32, .int .i64 dp, .int .i64 n, .int .i64 n, .int .u8 103, .bool true] w (App w buf (l ++ eText false ds dp)) := by
  obtain ⟨x, hx⟩ : ∃ x : Nat, x = (dp - 1).toNat := ⟨_, rfl⟩
  have HX : Hid (x = (dp - 1).toNat) := Lib.hid hx; clear hx
  obtain ⟨R, hR⟩ : ∃ R, R = l ++ eText false ds dp := ⟨_, rfl⟩
  have HT : Hid (((((((l ++ [c0]) ++ [46]) ++ (ds.drop 1)) ++ [101]) ++ [43]) ++ [UInt8.ofNat (48 + x / 10), UInt8.ofNat (48 + x % 10)]) = R) := Lib.hid (by
    rw [hR]
    have hx := HX.out
    have hne : ds ≠ [] := by intro h; subst h; have := hn.1; simp at this; omega
    have hhd : ds.headD 48 = c0 := by rw [List.headD_eq_head?_getD, List.head?_eq_getElem?, hn.2]; rfl
    have hhd2 : ds.head?.getD 48 = c0 := by rw [List.head?_eq_getElem?, hn.2]; rfl
    have hab : (dp - 1).natAbs = x := by omega
    unfold eText expD
    simp [List.append_assoc, hhd2, hn.1, h2, hne, show ¬ x < 10 by omega, show x < 100 by omega, show 1 ≤ dp by omega, hab])
  rw [← hR]; clear hR
  have hDc : w.cell? ⟨g, 0, none⟩ = some (bv c0) := by have := hD.cell (i := 0) (by rw [hn.1]; omega); rw [this]; have h5 := hn.2; rw [List.getElem?_eq_getElem (by rw [hn.1]; omega)] at h5; injection h5 with h5; rw [h5]
  have hlen : ds.length = n := hn.1
  obtain ⟨CI, hCI⟩ : ∃ CI : Int, CI = (c0.toNat : Int) := ⟨_, rfl⟩
  have HCI : Hid (CI = (c0.toNat : Int)) := Lib.hid hCI
  have hDc2 : w.cell? ⟨g, 0, none⟩ = some (.int .u8 CI) := by rw [hDc, hCI]; rfl
  have HDC := Lib.hid hDc2; clear hDc hDc2 hCI
  have hGL := hD.lt
  have HGL := Lib.hid hGL; clear hGL
  have HO := Lib.hid hO; clear hO
  have HD := Lib.hid hD; clear hD
  have HG := Lib.hid hg; clear hg
  have HL := Lib.hid hl; clear hl
  have HLEN := Lib.hid hlen; clear hlen
  have hmin : min (n : Int) ((n : Int) - 1 + 1) = (n : Int) := by omega
  clear hn
  have c9 := HDC.out
  go_enter Tryz.func139, Tryz.ntmps139
  go_wp2_with (first
    | (at_builtin; refine wpApp1 _ (o := ⟨some 90, _, _, _, _, _⟩) rfl (.tmp 87) (.tmp 89) rfl buf l _ c0 HCI.out rfl rfl HO.out (by have := HL.out; simp ; omega) ?_; intro v1 w1 ho1 hs1; have HO1 := Lib.hid ho1; have HS1 := Lib.hid hs1; clear ho1 hs1)
    | (at_builtin; refine wpApp1 _ (o := ⟨some 95, _, _, _, _, _⟩) rfl (.tmp 93) (.tmp 94) rfl v1 (l ++ [c0]) _ 46 rfl rfl rfl HO1.out (by have := HL.out; simp ; omega) ?_; intro v2 w2 ho2 hs2; have HO2 := Lib.hid ho2; have HS2 := Lib.hid (HS1.out.trans hs2); clear ho2 hs2)
    | (at_builtin; refine wpAppS _ (o := ⟨some 108, _, _, _, _, _⟩) rfl (.tmp 103) (.tmp 107) 66 rfl v2 ((l ++ [c0]) ++ [46]) (ds.drop 1) _ rfl rfl HO2.out (Dg.src' (HD.out.stp HS2.out HG.out) HLEN.out (by have := HLEN.out; simp; try omega)) (by have := HL.out; have := HLEN.out; simp ; omega) ?_; intro v3 w3 ho3 hs3; have HO3 := Lib.hid ho3; have HS3 := Lib.hid (HS2.out.trans hs3); clear ho3 hs3))
  refine wp_loop_rounds 1 ?_
  rw [rounds_succ]
  go_wp2_with (first
    | (at_builtin; refine wpApp1 _ (o := ⟨some 123, _, _, _, _, _⟩) rfl (.tmp 120) (.tmp 122) rfl v3 (((l ++ [c0]) ++ [46]) ++ (ds.drop 1)) _ 101 rfl rfl rfl HO3.out (by have := HL.out; simp [HLEN.out]; omega) ?_; intro v4 w4 ho4 hs4; have HO4 := Lib.hid ho4; have HS4 := Lib.hid (HS3.out.trans hs4); clear ho4 hs4)
    | (at_builtin; refine wpApp1 _ (o := ⟨some 135, _, _, _, _, _⟩) rfl (.tmp 132) (.tmp 134) rfl v4 ((((l ++ [c0]) ++ [46]) ++ (ds.drop 1)) ++ [101]) _ 43 rfl rfl rfl HO4.out (by have := HL.out; simp [HLEN.out]; omega) ?_; intro v5 w5 ho5 hs5; have HO5 := Lib.hid ho5; have HS5 := Lib.hid (HS4.out.trans hs5); clear ho5 hs5)
    | (at_builtin; refine wpApp2 _ (o := ⟨some 174, _, _, _, _, _⟩) rfl (.tmp 164) (.tmp 173) rfl v5 (((((l ++ [c0]) ++ [46]) ++ (ds.drop 1)) ++ [101]) ++ [43]) _ _ (UInt8.ofNat (48 + x / 10)) (UInt8.ofNat (48 + x % 10)) (byteOf (k := 48 + x / 10) (by have := HX.out; omega) (by have := HX.out; omega)) (byteOf (k := 48 + x % 10) (by have := HX.out; omega) (by have := HX.out; omega)) rfl rfl HO5.out (by have := HL.out; have := HLEN.out; simp [HLEN.out]; omega) ?_; intro v6 w6 ho6 hs6; have HO6 := Lib.hid ho6; have HS6 := Lib.hid (HS5.out.trans hs6); clear ho6 hs6))
  go_ret
  rw [← HT.out]
  exact App.mk HO6.out HS6.out
set_option maxRecDepth 100000 in
set_option maxHeartbeats 2000000 in
theorem fe_f2P3 (buf : Value) (l : List UInt8) (w : World) (g : Nat) (ds : List UInt8) (dp : Int) (c0 : UInt8) (n : Nat) (h2 : 2 ≤ n) (h3 : n ≤ 32) (hn : ds.length = n ∧ ds[0]? = some c0) (hd0 : 101 ≤ dp) (hd1 : dp ≤ 1000) (hO : Own w 5 buf l) (hl : l.length ≤ 900000000) (hD : Dg w g ds) (hg : buf.ownBlock ≠ some g) :
    Calls Tryz.prog 139 #[buf, .bool false, .slice (some ⟨g, 0, none⟩) 32 32, .int .i64 dp, .int .i64 n, .int .i64 n, .int .u8 103, .bool true] w (App w buf (l ++ eText false ds dp)) := by
  obtain ⟨x, hx⟩ : ∃ x : Nat, x = (dp - 1).toNat := ⟨_, rfl⟩
  have HX : Hid (x = (dp - 1).toNat) := Lib.hid hx; clear hx
  obtain ⟨R, hR⟩ : ∃ R, R = l ++ eText false ds dp := ⟨_, rfl⟩
  have HT : Hid (((((((l ++ [c0]) ++ [46]) ++ (ds.drop 1)) ++ [101]) ++ [43]) ++ [UInt8.ofNat (48 + x / 100), UInt8.ofNat (48 + x / 10 % 10), UInt8.ofNat (48 + x % 10)]) = R) := Lib.hid (by
    rw [hR]
    have hx := HX.out
    have hne : ds ≠ [] := by intro h; subst h; have := hn.1; simp at this; omega
    have hhd : ds.headD 48 = c0 := by rw [List.headD_eq_head?_getD, List.head?_eq_getElem?, hn.2]; rfl
    have hhd2 : ds.head?.getD 48 = c0 := by rw [List.head?_eq_getElem?, hn.2]; rfl
    have hab : (dp - 1).natAbs = x := by omega
    unfold eText expD
    simp [List.append_assoc, hhd2, hn.1, h2, hne, show ¬ x < 10 by omega, show ¬ x < 100 by omega, show 1 ≤ dp by omega, hab])
  rw [← hR]; clear hR
  have hDc : w.cell? ⟨g, 0, none⟩ = some (bv c0) := by have := hD.cell (i := 0) (by rw [hn.1]; omega); rw [this]; have h5 := hn.2; rw [List.getElem?_eq_getElem (by rw [hn.1]; omega)] at h5; injection h5 with h5; rw [h5]
  have hlen : ds.length = n := hn.1
  obtain ⟨CI, hCI⟩ : ∃ CI : Int, CI = (c0.toNat : Int) := ⟨_, rfl⟩
  have HCI : Hid (CI = (c0.toNat : Int)) := Lib.hid hCI
  have hDc2 : w.cell? ⟨g, 0, none⟩ = some (.int .u8 CI) := by rw [hDc, hCI]; rfl
  have HDC := Lib.hid hDc2; clear hDc hDc2 hCI
  have hGL := hD.lt
  have HGL := Lib.hid hGL; clear hGL
  have HO := Lib.hid hO; clear hO
  have HD := Lib.hid hD; clear hD
  have HG := Lib.hid hg; clear hg
  have HL := Lib.hid hl; clear hl
  have HLEN := Lib.hid hlen; clear hlen
  have hmin : min (n : Int) ((n : Int) - 1 + 1) = (n : Int) := by omega
  clear hn
  have c9 := HDC.out
  go_enter Tryz.func139, Tryz.ntmps139
  go_wp2_with (first
    | (at_builtin; refine wpApp1 _ (o := ⟨some 90, _, _, _, _, _⟩) rfl (.tmp 87) (.tmp 89) rfl buf l _ c0 HCI.out rfl rfl HO.out (by have := HL.out; simp ; omega) ?_; intro v1 w1 ho1 hs1; have HO1 := Lib.hid ho1; have HS1 := Lib.hid hs1; clear ho1 hs1)
    | (at_builtin; refine wpApp1 _ (o := ⟨some 95, _, _, _, _, _⟩) rfl (.tmp 93) (.tmp 94) rfl v1 (l ++ [c0]) _ 46 rfl rfl rfl HO1.out (by have := HL.out; simp ; omega) ?_; intro v2 w2 ho2 hs2; have HO2 := Lib.hid ho2; have HS2 := Lib.hid (HS1.out.trans hs2); clear ho2 hs2)
    | (at_builtin; refine wpAppS _ (o := ⟨some 108, _, _, _, _, _⟩) rfl (.tmp 103) (.tmp 107) 66 rfl v2 ((l ++ [c0]) ++ [46]) (ds.drop 1) _ rfl rfl HO2.out (Dg.src' (HD.out.stp HS2.out HG.out) HLEN.out (by have := HLEN.out; simp; try omega)) (by have := HL.out; have := HLEN.out; simp ; omega) ?_; intro v3 w3 ho3 hs3; have HO3 := Lib.hid ho3; have HS3 := Lib.hid (HS2.out.trans hs3); clear ho3 hs3))
  refine wp_loop_rounds 1 ?_
  rw [rounds_succ]
  go_wp2_with (first
    | (at_builtin; refine wpApp1 _ (o := ⟨some 123, _, _, _, _, _⟩) rfl (.tmp 120) (.tmp 122) rfl v3 (((l ++ [c0]) ++ [46]) ++ (ds.drop 1)) _ 101 rfl rfl rfl HO3.out (by have := HL.out; simp [HLEN.out]; omega) ?_; intro v4 w4 ho4 hs4; have HO4 := Lib.hid ho4; have HS4 := Lib.hid (HS3.out.trans hs4); clear ho4 hs4)
    | (at_builtin; refine wpApp1 _ (o := ⟨some 135, _, _, _, _, _⟩) rfl (.tmp 132) (.tmp 134) rfl v4 ((((l ++ [c0]) ++ [46]) ++ (ds.drop 1)) ++ [101]) _ 43 rfl rfl rfl HO4.out (by have := HL.out; simp [HLEN.out]; omega) ?_; intro v5 w5 ho5 hs5; have HO5 := Lib.hid ho5; have HS5 := Lib.hid (HS4.out.trans hs5); clear ho5 hs5)
    | (at_builtin; refine wpApp3 _ (o := ⟨some 151, _, _, _, _, _⟩) rfl (.tmp 136) (.tmp 150) rfl v5 (((((l ++ [c0]) ++ [46]) ++ (ds.drop 1)) ++ [101]) ++ [43]) _ _ _ (UInt8.ofNat (48 + x / 100)) (UInt8.ofNat (48 + x / 10 % 10)) (UInt8.ofNat (48 + x % 10)) (byteOf (k := 48 + x / 100) (by have := HX.out; omega) (by have := HX.out; omega)) (byteOf (k := 48 + x / 10 % 10) (by have := HX.out; omega) (by have := HX.out; omega)) (byteOf (k := 48 + x % 10) (by have := HX.out; omega) (by have := HX.out; omega)) rfl rfl HO5.out (by have := HL.out; have := HLEN.out; simp [HLEN.out]; omega) ?_; intro v6 w6 ho6 hs6; have HO6 := Lib.hid ho6; have HS6 := Lib.hid (HS5.out.trans hs6); clear ho6 hs6))
  go_ret
  rw [← HT.out]
  exact App.mk HO6.out HS6.out
set_option maxRecDepth 100000 in
set_option maxHeartbeats 2000000 in
theorem fe_f2N1 (buf : Value) (l : List UInt8) (w : World) (g : Nat) (ds : List UInt8) (dp : Int) (c0 : UInt8) (n : Nat) (h2 : 2 ≤ n) (h3 : n ≤ 32) (hn : ds.length = n ∧ ds[0]? = some c0) (hd0 : -8 ≤ dp) (hd1 : dp ≤ -4) (hO : Own w 5 buf l) (hl : l.length ≤ 900000000) (hD : Dg w g ds) (hg : buf.ownBlock ≠ some g) :
    Calls Tryz.prog 139 #[buf, .bool false, .slice (some ⟨g, 0, none⟩) 32 32, .int .i64 dp, .int .i64 n, .int .i64 n, .int .u8 103, .bool true] w (App w buf (l ++ eText false ds dp)) := by
  obtain ⟨x, hx⟩ : ∃ x : Nat, x = (1 - dp).toNat := ⟨_, rfl⟩
  have HX : Hid (x = (1 - dp).toNat) := Lib.hid hx; clear hx
  obtain ⟨R, hR⟩ : ∃ R, R = l ++ eText false ds dp := ⟨_, rfl⟩
  have HT : Hid (((((((l ++ [c0]) ++ [46]) ++ (ds.drop 1)) ++ [101]) ++ [45]) ++ [48, UInt8.ofNat (48 + x)]) = R) := Lib.hid (by
    rw [hR]
    have hx := HX.out
    have hne : ds ≠ [] := by intro h; subst h; have := hn.1; simp at this; omega
    have hhd : ds.headD 48 = c0 := by rw [List.headD_eq_head?_getD, List.head?_eq_getElem?, hn.2]; rfl
    have hhd2 : ds.head?.getD 48 = c0 := by rw [List.head?_eq_getElem?, hn.2]; rfl
    have hab : (dp - 1).natAbs = x := by omega
    unfold eText expD
    simp [List.append_assoc, hhd2, hn.1, h2, hne, show x < 10 by omega, show ¬ 1 ≤ dp by omega, hab])
  rw [← hR]; clear hR
  have hDc : w.cell? ⟨g, 0, none⟩ = some (bv c0) := by have := hD.cell (i := 0) (by rw [hn.1]; omega); rw [this]; have h5 := hn.2; rw [List.getElem?_eq_getElem (by rw [hn.1]; omega)] at h5; injection h5 with h5; rw [h5]
  have hlen : ds.length = n := hn.1
  obtain ⟨CI, hCI⟩ : ∃ CI : Int, CI = (c0.toNat : Int) := ⟨_, rfl⟩
  have HCI : Hid (CI = (c0.toNat : Int)) := Lib.hid hCI
  have hDc2 : w.cell? ⟨g, 0, none⟩ = some (.int .u8 CI) := by rw [hDc, hCI]; rfl
  have HDC := Lib.hid hDc2; clear hDc hDc2 hCI
  have hGL := hD.lt
  have HGL := Lib.hid hGL; clear hGL
  have HO := Lib.hid hO; clear hO
  have HD := Lib.hid hD; clear hD
  have HG := Lib.hid hg; clear hg
  have HL := Lib.hid hl; clear hl
  have HLEN := Lib.hid hlen; clear hlen
  have hmin : min (n : Int) ((n : Int) - 1 + 1) = (n : Int) := by omega
  clear hn
  have c9 := HDC.out
  have e1 : -(dp - 1) = (x : Int) := by have := HX.out; omega
  have e2 : (5 : Int) ≤ (x : Int) := by have := HX.out; omega
  have e3 : (x : Int) ≤ 9 := by have := HX.out; omega
  go_enter Tryz.func139, Tryz.ntmps139
  go_wp2_with (first
    | (at_builtin; refine wpApp1 _ (o := ⟨some 90, _, _, _, _, _⟩) rfl (.tmp 87) (.tmp 89) rfl buf l _ c0 HCI.out rfl rfl HO.out (by have := HL.out; simp ; omega) ?_; intro v1 w1 ho1 hs1; have HO1 := Lib.hid ho1; have HS1 := Lib.hid hs1; clear ho1 hs1)
    | (at_builtin; refine wpApp1 _ (o := ⟨some 95, _, _, _, _, _⟩) rfl (.tmp 93) (.tmp 94) rfl v1 (l ++ [c0]) _ 46 rfl rfl rfl HO1.out (by have := HL.out; simp ; omega) ?_; intro v2 w2 ho2 hs2; have HO2 := Lib.hid ho2; have HS2 := Lib.hid (HS1.out.trans hs2); clear ho2 hs2)
    | (at_builtin; refine wpAppS _ (o := ⟨some 108, _, _, _, _, _⟩) rfl (.tmp 103) (.tmp 107) 66 rfl v2 ((l ++ [c0]) ++ [46]) (ds.drop 1) _ rfl rfl HO2.out (Dg.src' (HD.out.stp HS2.out HG.out) HLEN.out (by have := HLEN.out; simp; try omega)) (by have := HL.out; have := HLEN.out; simp ; omega) ?_; intro v3 w3 ho3 hs3; have HO3 := Lib.hid ho3; have HS3 := Lib.hid (HS2.out.trans hs3); clear ho3 hs3))
  refine wp_loop_rounds 1 ?_
  rw [rounds_succ]
  go_wp2_with (first
    | (at_builtin; refine wpApp1 _ (o := ⟨some 123, _, _, _, _, _⟩) rfl (.tmp 120) (.tmp 122) rfl v3 (((l ++ [c0]) ++ [46]) ++ (ds.drop 1)) _ 101 rfl rfl rfl HO3.out (by have := HL.out; simp [HLEN.out]; omega) ?_; intro v4 w4 ho4 hs4; have HO4 := Lib.hid ho4; have HS4 := Lib.hid (HS3.out.trans hs4); clear ho4 hs4)
    | (at_builtin; refine wpApp1 _ (o := ⟨some 135, _, _, _, _, _⟩) rfl (.tmp 132) (.tmp 134) rfl v4 ((((l ++ [c0]) ++ [46]) ++ (ds.drop 1)) ++ [101]) _ 45 rfl rfl rfl HO4.out (by have := HL.out; simp [HLEN.out]; omega) ?_; intro v5 w5 ho5 hs5; have HO5 := Lib.hid ho5; have HS5 := Lib.hid (HS4.out.trans hs5); clear ho5 hs5)
    | (at_builtin; refine wpApp2 _ (o := ⟨some 160, _, _, _, _, _⟩) rfl (.tmp 155) (.tmp 159) rfl v5 (((((l ++ [c0]) ++ [46]) ++ (ds.drop 1)) ++ [101]) ++ [45]) _ _ (48) (UInt8.ofNat (48 + x)) rfl (byteOf (k := 48 + x) (by have := HX.out; omega) (by have := HX.out; omega)) rfl rfl HO5.out (by have := HL.out; have := HLEN.out; simp [HLEN.out]; omega) ?_; intro v6 w6 ho6 hs6; have HO6 := Lib.hid ho6; have HS6 := Lib.hid (HS5.out.trans hs6); clear ho6 hs6))
  go_ret
  rw [← HT.out]
  exact App.mk HO6.out HS6.out
set_option maxRecDepth 100000 in
set_option maxHeartbeats 2000000 in
theorem fe_f2N2 (buf : Value) (l : List UInt8) (w : World) (g : Nat) (ds : List UInt8) (dp : Int) (c0 : UInt8) (n : Nat) (h2 : 2 ≤ n) (h3 : n ≤ 32) (hn : ds.length = n ∧ ds[0]? = some c0) (hd0 : -98 ≤ dp) (hd1 : dp ≤ -9) (hO : Own w 5 buf l) (hl : l.length ≤ 900000000) (hD : Dg w g ds) (hg : buf.ownBlock ≠ some g) :
    Calls Tryz.prog 139 #[buf, .bool false, .slice (some ⟨g, 0, none⟩) 32 32, .int .i64 dp, .int .i64 n, .int .i64 n, .int .u8 103, .bool true] w (App w buf (l ++ eText false ds dp)) := by
  obtain ⟨x, hx⟩ : ∃ x : Nat, x = (1 - dp).toNat := ⟨_, rfl⟩
  have HX : Hid (x = (1 - dp).toNat) := Lib.hid hx; clear hx
  obtain ⟨R, hR⟩ : ∃ R, R = l ++ eText false ds dp := ⟨_, rfl⟩
  have HT : Hid (((((((l ++ [c0]) ++ [46]) ++ (ds.drop 1)) ++ [101]) ++ [45]) ++ [UInt8.ofNat (48 + x / 10), UInt8.ofNat (48 + x % 10)]) = R) := Lib.hid (by
    rw [hR]
    have hx := HX.out
    have hne : ds ≠ [] := by intro h; subst h; have := hn.1; simp at this; omega
    have hhd : ds.headD 48 = c0 := by rw [List.headD_eq_head?_getD, List.head?_eq_getElem?, hn.2]; rfl
    have hhd2 : ds.head?.getD 48 = c0 := by rw [List.head?_eq_getElem?, hn.2]; rfl
    have hab : (dp - 1).natAbs = x := by omega
    unfold eText expD
    simp [List.append_assoc, hhd2, hn.1, h2, hne, show ¬ x < 10 by omega, show x < 100 by omega, show ¬ 1 ≤ dp by omega, hab])
  rw [← hR]; clear hR
  have hDc : w.cell? ⟨g, 0, none⟩ = some (bv c0) := by have := hD.cell (i := 0) (by rw [hn.1]; omega); rw [this]; have h5 := hn.2; rw [List.getElem?_eq_getElem (by rw [hn.1]; omega)] at h5; injection h5 with h5; rw [h5]
  have hlen : ds.length = n := hn.1
  obtain ⟨CI, hCI⟩ : ∃ CI : Int, CI = (c0.toNat : Int) := ⟨_, rfl⟩
  have HCI : Hid (CI = (c0.toNat : Int)) := Lib.hid hCI
  have hDc2 : w.cell? ⟨g, 0, none⟩ = some (.int .u8 CI) := by rw [hDc, hCI]; rfl
  have HDC := Lib.hid hDc2; clear hDc hDc2 hCI
  have hGL := hD.lt
  have HGL := Lib.hid hGL; clear hGL
  have HO := Lib.hid hO; clear hO
  have HD := Lib.hid hD; clear hD
  have HG := Lib.hid hg; clear hg
  have HL := Lib.hid hl; clear hl
  have HLEN := Lib.hid hlen; clear hlen
  have hmin : min (n : Int) ((n : Int) - 1 + 1) = (n : Int) := by omega
  clear hn
  have c9 := HDC.out
  have e1 : -(dp - 1) = (x : Int) := by have := HX.out; omega
  have e2 : (10 : Int) ≤ (x : Int) := by have := HX.out; omega
  have e3 : (x : Int) ≤ 99 := by have := HX.out; omega
  go_enter Tryz.func139, Tryz.ntmps139
  go_wp2_with (first
    | (at_builtin; refine wpApp1 _ (o := ⟨some 90, _, _, _, _, _⟩) rfl (.tmp 87) (.tmp 89) rfl buf l _ c0 HCI.out rfl rfl HO.out (by have := HL.out; simp ; omega) ?_; intro v1 w1 ho1 hs1; have HO1 := Lib.hid ho1; have HS1 := Lib.hid hs1; clear ho1 hs1)
    | (at_builtin; refine wpApp1 _ (o := ⟨some 95, _, _, _, _, _⟩) rfl (.tmp 93) (.tmp 94) rfl v1 (l ++ [c0]) _ 46 rfl rfl rfl HO1.out (by have := HL.out; simp ; omega) ?_; intro v2 w2 ho2 hs2; have HO2 := Lib.hid ho2; have HS2 := Lib.hid (HS1.out.trans hs2); clear ho2 hs2)
    | (at_builtin; refine wpAppS _ (o := ⟨some 108, _, _, _, _, _⟩) rfl (.tmp 103) (.tmp 107) 66 rfl v2 ((l ++ [c0]) ++ [46]) (ds.drop 1) _ rfl rfl HO2.out (Dg.src' (HD.out.stp HS2.out HG.out) HLEN.out (by have := HLEN.out; simp; try omega)) (by have := HL.out; have := HLEN.out; simp ; omega) ?_; intro v3 w3 ho3 hs3; have HO3 := Lib.hid ho3; have HS3 := Lib.hid (HS2.out.trans hs3); clear ho3 hs3))
  refine wp_loop_rounds 1 ?_
  rw [rounds_succ]
  go_wp2_with (first
    | (at_builtin; refine wpApp1 _ (o := ⟨some 123, _, _, _, _, _⟩) rfl (.tmp 120) (.tmp 122) rfl v3 (((l ++ [c0]) ++ [46]) ++ (ds.drop 1)) _ 101 rfl rfl rfl HO3.out (by have := HL.out; simp [HLEN.out]; omega) ?_; intro v4 w4 ho4 hs4; have HO4 := Lib.hid ho4; have HS4 := Lib.hid (HS3.out.trans hs4); clear ho4 hs4)
    | (at_builtin; refine wpApp1 _ (o := ⟨some 135, _, _, _, _, _⟩) rfl (.tmp 132) (.tmp 134) rfl v4 ((((l ++ [c0]) ++ [46]) ++ (ds.drop 1)) ++ [101]) _ 45 rfl rfl rfl HO4.out (by have := HL.out; simp [HLEN.out]; omega) ?_; intro v5 w5 ho5 hs5; have HO5 := Lib.hid ho5; have HS5 := Lib.hid (HS4.out.trans hs5); clear ho5 hs5)
    | (at_builtin; refine wpApp2 _ (o := ⟨some 174, _, _, _, _, _⟩) rfl (.tmp 164) (.tmp 173) rfl v5 (((((l ++ [c0]) ++ [46]) ++ (ds.drop 1)) ++ [101]) ++ [45]) _ _ (UInt8.ofNat (48 + x / 10)) (UInt8.ofNat (48 + x % 10)) (byteOf (k := 48 + x / 10) (by have := HX.out; omega) (by have := HX.out; omega)) (byteOf (k := 48 + x % 10) (by have := HX.out; omega) (by have := HX.out; omega)) rfl rfl HO5.out (by have := HL.out; have := HLEN.out; simp [HLEN.out]; omega) ?_; intro v6 w6 ho6 hs6; have HO6 := Lib.hid ho6; have HS6 := Lib.hid (HS5.out.trans hs6); clear ho6 hs6))
  go_ret
  rw [← HT.out]
  exact App.mk HO6.out HS6.out
set_option maxRecDepth 100000 in
set_option maxHeartbeats 2000000 in
theorem fe_f2N3 (buf : Value) (l : List UInt8) (w : World) (g : Nat) (ds : List UInt8) (dp : Int) (c0 : UInt8) (n : Nat) (h2 : 2 ≤ n) (h3 : n ≤ 32) (hn : ds.length = n ∧ ds[0]? = some c0) (hd0 : -1000 ≤ dp) (hd1 : dp ≤ -99) (hO : Own w 5 buf l) (hl : l.length ≤ 900000000) (hD : Dg w g ds) (hg : buf.ownBlock ≠ some g) :
    Calls Tryz.prog 139 #[buf, .bool false, .slice (some ⟨g, 0, none⟩) 32 32, .int .i64 dp, .int .i64 n, .int .i64 n, .int .u8 103, .bool true] w (App w buf (l ++ eText false ds dp)) := by
  obtain ⟨x, hx⟩ : ∃ x : Nat, x = (1 - dp).toNat := ⟨_, rfl⟩
  have HX : Hid (x = (1 - dp).toNat) := Lib.hid hx; clear hx
  obtain ⟨R, hR⟩ : ∃ R, R = l ++ eText false ds dp := ⟨_, rfl⟩
  have HT : Hid (((((((l ++ [c0]) ++ [46]) ++ (ds.drop 1)) ++ [101]) ++ [45]) ++ [UInt8.ofNat (48 + x / 100), UInt8.ofNat (48 + x / 10 % 10), UInt8.ofNat (48 + x % 10)]) = R) := Lib.hid (by
    rw [hR]
    have hx := HX.out
    have hne : ds ≠ [] := by intro h; subst h; have := hn.1; simp at this; omega
    have hhd : ds.headD 48 = c0 := by rw [List.headD_eq_head?_getD, List.head?_eq_getElem?, hn.2]; rfl
    have hhd2 : ds.head?.getD 48 = c0 := by rw [List.head?_eq_getElem?, hn.2]; rfl
    have hab : (dp - 1).natAbs = x := by omega
    unfold eText expD
    simp [List.append_assoc, hhd2, hn.1, h2, hne, show ¬ x < 10 by omega, show ¬ x < 100 by omega, show ¬ 1 ≤ dp by omega, hab])
  rw [← hR]; clear hR
  have hDc : w.cell? ⟨g, 0, none⟩ = some (bv c0) := by have := hD.cell (i := 0) (by rw [hn.1]; omega); rw [this]; have h5 := hn.2; rw [List.getElem?_eq_getElem (by rw [hn.1]; omega)] at h5; injection h5 with h5; rw [h5]
  have hlen : ds.length = n := hn.1
  obtain ⟨CI, hCI⟩ : ∃ CI : Int, CI = (c0.toNat : Int) := ⟨_, rfl⟩
  have HCI : Hid (CI = (c0.toNat : Int)) := Lib.hid hCI
  have hDc2 : w.cell? ⟨g, 0, none⟩ = some (.int .u8 CI) := by rw [hDc, hCI]; rfl
  have HDC := Lib.hid hDc2; clear hDc hDc2 hCI
  have hGL := hD.lt
  have HGL := Lib.hid hGL; clear hGL
  have HO := Lib.hid hO; clear hO
  have HD := Lib.hid hD; clear hD
  have HG := Lib.hid hg; clear hg
  have HL := Lib.hid hl; clear hl
  have HLEN := Lib.hid hlen; clear hlen
  have hmin : min (n : Int) ((n : Int) - 1 + 1) = (n : Int) := by omega
  clear hn
  have c9 := HDC.out
  have e1 : -(dp - 1) = (x : Int) := by have := HX.out; omega
  have e2 : (100 : Int) ≤ (x : Int) := by have := HX.out; omega
  have e3 : (x : Int) ≤ 1001 := by have := HX.out; omega
  go_enter Tryz.func139, Tryz.ntmps139
  go_wp2_with (first
    | (at_builtin; refine wpApp1 _ (o := ⟨some 90, _, _, _, _, _⟩) rfl (.tmp 87) (.tmp 89) rfl buf l _ c0 HCI.out rfl rfl HO.out (by have := HL.out; simp ; omega) ?_; intro v1 w1 ho1 hs1; have HO1 := Lib.hid ho1; have HS1 := Lib.hid hs1; clear ho1 hs1)
    | (at_builtin; refine wpApp1 _ (o := ⟨some 95, _, _, _, _, _⟩) rfl (.tmp 93) (.tmp 94) rfl v1 (l ++ [c0]) _ 46 rfl rfl rfl HO1.out (by have := HL.out; simp ; omega) ?_; intro v2 w2 ho2 hs2; have HO2 := Lib.hid ho2; have HS2 := Lib.hid (HS1.out.trans hs2); clear ho2 hs2)
    | (at_builtin; refine wpAppS _ (o := ⟨some 108, _, _, _, _, _⟩) rfl (.tmp 103) (.tmp 107) 66 rfl v2 ((l ++ [c0]) ++ [46]) (ds.drop 1) _ rfl rfl HO2.out (Dg.src' (HD.out.stp HS2.out HG.out) HLEN.out (by have := HLEN.out; simp; try omega)) (by have := HL.out; have := HLEN.out; simp ; omega) ?_; intro v3 w3 ho3 hs3; have HO3 := Lib.hid ho3; have HS3 := Lib.hid (HS2.out.trans hs3); clear ho3 hs3))
  refine wp_loop_rounds 1 ?_
  rw [rounds_succ]
  go_wp2_with (first
    | (at_builtin; refine wpApp1 _ (o := ⟨some 123, _, _, _, _, _⟩) rfl (.tmp 120) (.tmp 122) rfl v3 (((l ++ [c0]) ++ [46]) ++ (ds.drop 1)) _ 101 rfl rfl rfl HO3.out (by have := HL.out; simp [HLEN.out]; omega) ?_; intro v4 w4 ho4 hs4; have HO4 := Lib.hid ho4; have HS4 := Lib.hid (HS3.out.trans hs4); clear ho4 hs4)
    | (at_builtin; refine wpApp1 _ (o := ⟨some 135, _, _, _, _, _⟩) rfl (.tmp 132) (.tmp 134) rfl v4 ((((l ++ [c0]) ++ [46]) ++ (ds.drop 1)) ++ [101]) _ 45 rfl rfl rfl HO4.out (by have := HL.out; simp [HLEN.out]; omega) ?_; intro v5 w5 ho5 hs5; have HO5 := Lib.hid ho5; have HS5 := Lib.hid (HS4.out.trans hs5); clear ho5 hs5)
    | (at_builtin; refine wpApp3 _ (o := ⟨some 151, _, _, _, _, _⟩) rfl (.tmp 136) (.tmp 150) rfl v5 (((((l ++ [c0]) ++ [46]) ++ (ds.drop 1)) ++ [101]) ++ [45]) _ _ _ (UInt8.ofNat (48 + x / 100)) (UInt8.ofNat (48 + x / 10 % 10)) (UInt8.ofNat (48 + x % 10)) (byteOf (k := 48 + x / 100) (by have := HX.out; omega) (by have := HX.out; omega)) (byteOf (k := 48 + x / 10 % 10) (by have := HX.out; omega) (by have := HX.out; omega)) (byteOf (k := 48 + x % 10) (by have := HX.out; omega) (by have := HX.out; omega)) rfl rfl HO5.out (by have := HL.out; have := HLEN.out; simp [HLEN.out]; omega) ?_; intro v6 w6 ho6 hs6; have HO6 := Lib.hid ho6; have HS6 := Lib.hid (HS5.out.trans hs6); clear ho6 hs6))
  go_ret
  rw [← HT.out]
  exact App.mk HO6.out HS6.out
end Go.Proofs.YtaaogjhaokaggaaGreatDoor
