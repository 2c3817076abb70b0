import Derived.Test.YtaaogjhaokaggaaGreatDoorSpE
namespace Go.Proofs.YtaaogjhaokaggaaGreatDoor
open Go.RowKit Go.Sort

/-- The escapes of a text, as the program and as spec have them. -/
theorem escS_all : ∀ c : Fin 256, escB (tOf sS) (UInt8.ofNat c.val) = spE 4 (UInt8.ofNat c.val) := by decide +kernel
theorem escS_one (c : UInt8) : escB (tOf sS) c = spE 4 c := by
  have h := escS_all ⟨c.toNat, c.toNat_lt⟩
  have e : UInt8.ofNat c.toNat = c := UInt8.ofNat_toNat
  simp only [e] at h
  exact h
theorem escS_eq (l : List UInt8) : esc (tOf sS) l = spEsc 4 l := by
  unfold esc spEsc
  congr 1
  funext c
  exact escS_one c
theorem can_made (d : VD) (h : d.can = true) : ∃ x, d.made = some x ∧ valText fTx x = d.text := by
  obtain ⟨k, s, n, u, f, b⟩ := d
  simp only [VD.can, VD.made, VD.text] at *
  by_cases h1 : k = 1
  · subst h1
    rw [if_pos rfl] at h
    rw [if_pos rfl, if_pos h]
    refine ⟨_, rfl, ?_⟩
    simp [valText, escS_eq]
  rw [if_neg h1] at h ⊢
  by_cases h4 : k = 4
  · subst h4
    rw [if_pos rfl] at h
    rw [if_neg (by decide), if_neg (by decide), if_pos rfl, if_pos h]
    refine ⟨_, rfl, ?_⟩
    simp [valText]
  rw [if_neg h4] at h
  have h := of_decide_eq_true h
  rcases h with rfl | rfl | rfl
  · refine ⟨.int n, by simp, ?_⟩
    simp [valText]
  · refine ⟨.uint u, by simp, ?_⟩
    simp [valText]
  · refine ⟨.bool b, by simp, ?_⟩
    cases b <;> rfl
theorem text_len (d : VD) (hd : d.Ok) : d.text.length ≤ 3000000 := by
  obtain ⟨k, s, n, u, f, b⟩ := d
  obtain ⟨hs, hn0, hn1, hu⟩ := hd
  simp only [VD.text] at *
  have h1 := Lib.itoa_length_le n hn0 hn1
  have h2 : (Lib.decDigits u).length ≤ 20 := by rw [Lib.decDigits_length]; exact Lib.nDigits_le20 u hu
  have h3 := fTx_len f
  have h4 : (Lib.formatBool b).length ≤ 5 := formatBool_len b
  have h5 := spEsc_len 4 s.data.toList
  have h6 : s.data.toList.length = s.size := by simp
  repeat' split
  all_goals (try simp only [List.length_append, List.length_cons, List.length_nil])
  all_goals omega

set_option maxRecDepth 100000 in
set_option maxHeartbeats 4000000 in
theorem valueText_walk (hV : ValidSaid) {ea : Addr} {B0 : Nat} (t : ByteArray) (d : VD) (hn0 : -9223372036854775808 ≤ d.n) (hn1 : d.n ≤ 9223372036854775807) (hu : d.u < 18446744073709551616) (hf : d.f < 18446744073709551616) (w : World) (hG : Gv B0 ea w) :
    Calls Tryz.prog 4 #[.string t, .agg d.cells] w fun e w' => e = .returned (.bool true) ∧ Fr [] w w' := by
  obtain ⟨k, s, n, u, f, x⟩ := d
  simp only at hn0 hn1 hu hf
  have hsf : ∀ (a : Addr) (k : FloatKind) (b : Nat) (m : Mode) (w : World), (store a (.float k b) m).run Tryz.prog w = stored Tryz.prog w a (.float k b) m := fun a k b m w => run_store Tryz.prog w a _ m rfl
  obtain ⟨Z, hZ⟩ : ∃ Z, Z = decide (s.size ≤ 2147483647) := ⟨_, rfl⟩
  obtain ⟨K, hK⟩ : ∃ K, K = VD.kinds ⟨k, s, n, u, f, x⟩ := ⟨_, rfl⟩
  obtain ⟨C, hC⟩ : ∃ C, C = VD.can ⟨k, s, n, u, f, x⟩ := ⟨_, rfl⟩
  have hz := fun w => zzFits3_any ⟨k, s, n, u, f, x⟩ w
  have hk := fun g w hg => lKinds_one ⟨k, s, n, u, f, x⟩ g w hg
  simp only [VD.cells] at hz hk
  rw [← hZ] at hz
  rw [← hK] at hk
  have HZE := Lib.hid hZ
  have HKE := Lib.hid hK
  have HCE := Lib.hid hC
  clear hZ hK hC
  simp only [VD.cells]
  have HZ := Lib.hid hz
  have HK := Lib.hid hk
  clear hz hk
  have HF0 : Hid (Fr [] w (w.alloc (.cells #[.int .i64 k, .string s, .int .i64 n, .int .u64 u, .float .f64 f, .bool x] 25))) := Lib.hid ((Fr.refl _ _).alloc _)
  have HR0 := Lib.hid (heap_alloc_new w (.cells #[.int .i64 k, .string s, .int .i64 n, .int .u64 u, .float .f64 f, .bool x] 25))
  by_cases h1 : t.size ≤ 2147483647
  case neg =>
    have hi : (2147483647 : Int) < (t.size : Int) := by omega
    clear hG
    go_enter Tryz.func4, Tryz.ntmps4
    go_wp2_with fail
    go_ret
    exact ⟨rfl, HF0.out⟩
  have hi : (t.size : Int) ≤ 2147483647 := by omega
  cases Z with
  | false =>
    clear hG
    go_enter Tryz.func4, Tryz.ntmps4
    go_wp2_with (go_at_call 14; refine (HZ.out _).mono ?_; rintro e w1 ⟨rfl, hf1⟩)
    go_ret
    exact ⟨rfl, HF0.out.trans hf1⟩
  | true =>
    have hs := of_decide_eq_true HZE.out.symm
    cases K with
    | false =>
      clear hG
      go_enter Tryz.func4, Tryz.ntmps4
      go_wp2_with (first
        | (go_at_call 14; refine (HZ.out _).mono ?_; rintro e w1 ⟨rfl, hf1⟩; have HF1 := Lib.hid hf1; have HR1 := Lib.hid (hf1.blk HR0.out List.not_mem_nil); have d0 := cell_of_row w1 w.heap.size 0 _ 25 _ HR1.out; have d1 := cell_of_row w1 w.heap.size 1 _ 25 _ HR1.out; have d2 := cell_of_row w1 w.heap.size 2 _ 25 _ HR1.out; have d3 := cell_of_row w1 w.heap.size 3 _ 25 _ HR1.out; have d4 := cell_of_row w1 w.heap.size 4 _ 25 _ HR1.out; have d5 := cell_of_row w1 w.heap.size 5 _ 25 _ HR1.out; clear hf1)
        | (go_at_call 15; refine (HK.out _ _ (heap_alloc_new _ _)).mono ?_; rintro e w2 ⟨rfl, hf2⟩))
      go_ret
      exact ⟨rfl, (HF0.out.trans HF1.out).trans (((Fr.refl [] w1).alloc _).trans hf2)⟩
    | true =>
      have hkk := of_decide_eq_true HKE.out.symm
      simp only at hkk
      by_cases h8 : t.size ≤ 800
      case neg =>
        have h8i : (800 : Int) < (t.size : Int) := by omega
        have HKK := Lib.hid hkk; clear hkk hG
        go_enter Tryz.func4, Tryz.ntmps4
        go_wp2_with (first
          | (go_at_call 14; refine (HZ.out _).mono ?_; rintro e w1 ⟨rfl, hf1⟩; have HF1 := Lib.hid hf1; have HR1 := Lib.hid (hf1.blk HR0.out List.not_mem_nil); have d01 := cell_of_row w1 w.heap.size 0 _ 25 _ HR1.out; have d11 := cell_of_row w1 w.heap.size 1 _ 25 _ HR1.out; have d21 := cell_of_row w1 w.heap.size 2 _ 25 _ HR1.out; have d31 := cell_of_row w1 w.heap.size 3 _ 25 _ HR1.out; have d41 := cell_of_row w1 w.heap.size 4 _ 25 _ HR1.out; have d51 := cell_of_row w1 w.heap.size 5 _ 25 _ HR1.out; clear hf1)
          | (go_at_call 15; refine (HK.out _ _ (heap_alloc_new _ _)).mono ?_; rintro e w2 ⟨rfl, hf2⟩))
        go_ret
        exact ⟨rfl, (HF0.out.trans HF1.out).trans (((Fr.refl [] w1).alloc _).trans hf2)⟩
      have h8i : (t.size : Int) ≤ 800 := by omega
      have hc := fun w => canBe_any ⟨k, s, n, u, f, x⟩ (by simp only; omega) w
      simp only [VD.cells] at hc
      rw [← HCE.out] at hc
      have HC := Lib.hid hc; clear hc
      cases C with
      | false =>
        have HKK := Lib.hid hkk; clear hkk hG
        go_enter Tryz.func4, Tryz.ntmps4
        go_wp2_with (first
          | (go_at_call 14; refine (HZ.out _).mono ?_; rintro e w1 ⟨rfl, hf1⟩; have HF1 := Lib.hid hf1; have HR1 := Lib.hid (hf1.blk HR0.out List.not_mem_nil); have d01 := cell_of_row w1 w.heap.size 0 _ 25 _ HR1.out; have d11 := cell_of_row w1 w.heap.size 1 _ 25 _ HR1.out; have d21 := cell_of_row w1 w.heap.size 2 _ 25 _ HR1.out; have d31 := cell_of_row w1 w.heap.size 3 _ 25 _ HR1.out; have d41 := cell_of_row w1 w.heap.size 4 _ 25 _ HR1.out; have d51 := cell_of_row w1 w.heap.size 5 _ 25 _ HR1.out; clear hf1)
          | (go_at_call 15; refine (HK.out _ _ (heap_alloc_new _ _)).mono ?_; rintro e w2 ⟨rfl, hf2⟩; have HF2 := Lib.hid (((Fr.refl [] w1).alloc _).trans hf2); have HR2 := Lib.hid (HF2.out.blk HR1.out List.not_mem_nil); have d02 := cell_of_row w2 w.heap.size 0 _ 25 _ HR2.out; have d12 := cell_of_row w2 w.heap.size 1 _ 25 _ HR2.out; have d22 := cell_of_row w2 w.heap.size 2 _ 25 _ HR2.out; have d32 := cell_of_row w2 w.heap.size 3 _ 25 _ HR2.out; have d42 := cell_of_row w2 w.heap.size 4 _ 25 _ HR2.out; have d52 := cell_of_row w2 w.heap.size 5 _ 25 _ HR2.out; clear hf2)
          | (go_at_call 16; refine (HC.out _).mono ?_; rintro e w3 ⟨rfl, hf3⟩))
        go_ret
        exact ⟨rfl, ((HF0.out.trans HF1.out).trans HF2.out).trans hf3⟩
      | true =>
        obtain ⟨y, hy, hty⟩ := can_made ⟨k, s, n, u, f, x⟩ HCE.out.symm
        have hok : VD.Ok ⟨k, s, n, u, f, x⟩ := ⟨by simp only; omega, hn0, hn1, hu⟩
        have hfin : ∀ m, y = .flt m → finOk m := by
          intro m hm
          subst hm
          simp only [VD.made] at hy
          repeat' split at hy
          all_goals first | (cases hy; exact ⟨hf, by assumption⟩) | cases hy
        have hys : ∀ q, y = .str q → q.length ≤ 1000000 := by
          intro q hq
          subst hq
          simp only [VD.made] at hy
          repeat' split at hy
          all_goals first | (cases hy; simp; omega) | cases hy
        have hff : k = 4 → finOk f := by
          intro h4
          have := HCE.out
          simp only [VD.can] at this
          rw [h4, if_neg (by decide), if_pos rfl] at this
          exact ⟨hf, this.symm⟩
        have hi2 := fun w (hG : Gv B0 ea w) => implText_any hV ⟨k, s, n, u, f, x⟩ hok y hy hfin hys t (by omega) w hG
        have hs2 := fun w (hG : Gv B0 ea w) => specText_any ⟨k, s, n, u, f, x⟩ hok hff w hG
        have htl := text_len ⟨k, s, n, u, f, x⟩ hok
        rw [hty] at hi2
        simp only [VD.cells] at hi2 hs2
        obtain ⟨X, hX⟩ : ∃ X, X = VD.text ⟨k, s, n, u, f, x⟩ := ⟨_, rfl⟩
        rw [← hX] at hi2 hs2 htl
        have HI2 := Lib.hid hi2
        have HS2 := Lib.hid hs2
        have hcat : t ++ (⟨X.toArray⟩ : ByteArray) = ⟨(t.data.toList ++ X).toArray⟩ := by rw [← ba_app]
        have HGG := Lib.hid hG
        have HKK := Lib.hid hkk
        clear hkk hG hi2 hs2 hX hy hty hok hfin hys hff
        go_enter Tryz.func4, Tryz.ntmps4
        go_wp2_with (first
          | (go_at_call 14; refine (HZ.out _).mono ?_; rintro e w1 ⟨rfl, hf1⟩; have HF1 := Lib.hid hf1; have HR1 := Lib.hid (hf1.blk HR0.out List.not_mem_nil); have d01 := cell_of_row w1 w.heap.size 0 _ 25 _ HR1.out; have d11 := cell_of_row w1 w.heap.size 1 _ 25 _ HR1.out; have d21 := cell_of_row w1 w.heap.size 2 _ 25 _ HR1.out; have d31 := cell_of_row w1 w.heap.size 3 _ 25 _ HR1.out; have d41 := cell_of_row w1 w.heap.size 4 _ 25 _ HR1.out; have d51 := cell_of_row w1 w.heap.size 5 _ 25 _ HR1.out; clear hf1)
          | (go_at_call 15; refine (HK.out _ _ (heap_alloc_new _ _)).mono ?_; rintro e w2 ⟨rfl, hf2⟩; have HF2 := Lib.hid (((Fr.refl [] w1).alloc _).trans hf2); have HR2 := Lib.hid (HF2.out.blk HR1.out List.not_mem_nil); have d02 := cell_of_row w2 w.heap.size 0 _ 25 _ HR2.out; have d12 := cell_of_row w2 w.heap.size 1 _ 25 _ HR2.out; have d22 := cell_of_row w2 w.heap.size 2 _ 25 _ HR2.out; have d32 := cell_of_row w2 w.heap.size 3 _ 25 _ HR2.out; have d42 := cell_of_row w2 w.heap.size 4 _ 25 _ HR2.out; have d52 := cell_of_row w2 w.heap.size 5 _ 25 _ HR2.out; clear hf2)
          | (go_at_call 16; refine (HC.out _).mono ?_; rintro e w3 ⟨rfl, hf3⟩; have HF3 := Lib.hid hf3; have HR3 := Lib.hid (hf3.blk HR2.out List.not_mem_nil); have d03 := cell_of_row w3 w.heap.size 0 _ 25 _ HR3.out; have d13 := cell_of_row w3 w.heap.size 1 _ 25 _ HR3.out; have d23 := cell_of_row w3 w.heap.size 2 _ 25 _ HR3.out; have d33 := cell_of_row w3 w.heap.size 3 _ 25 _ HR3.out; have d43 := cell_of_row w3 w.heap.size 4 _ 25 _ HR3.out; have d53 := cell_of_row w3 w.heap.size 5 _ 25 _ HR3.out; clear hf3; have HG3 := Lib.hid (HGG.out.fr (((HF0.out.trans HF1.out).trans HF2.out).trans HF3.out) (fun _ h => by cases h)))
          | (go_at_call 18; refine (HI2.out _ HG3.out).mono ?_; rintro e w4 ⟨rfl, hf4⟩; have HF4 := Lib.hid hf4; have HR4 := Lib.hid (hf4.blk HR3.out List.not_mem_nil); have d04 := cell_of_row w4 w.heap.size 0 _ 25 _ HR4.out; have d14 := cell_of_row w4 w.heap.size 1 _ 25 _ HR4.out; have d24 := cell_of_row w4 w.heap.size 2 _ 25 _ HR4.out; have d34 := cell_of_row w4 w.heap.size 3 _ 25 _ HR4.out; have d44 := cell_of_row w4 w.heap.size 4 _ 25 _ HR4.out; have d54 := cell_of_row w4 w.heap.size 5 _ 25 _ HR4.out; clear hf4)
          | (go_at_call 19; refine (HS2.out _ (HG3.out.fr HF4.out (fun _ h => by cases h))).mono ?_; rintro e w5 ⟨rfl, hf5⟩))
        go_ret
        exact ⟨rfl, (((HF0.out.trans HF1.out).trans HF2.out).trans HF3.out).trans (HF4.out.trans hf5)⟩
end Go.Proofs.YtaaogjhaokaggaaGreatDoor
