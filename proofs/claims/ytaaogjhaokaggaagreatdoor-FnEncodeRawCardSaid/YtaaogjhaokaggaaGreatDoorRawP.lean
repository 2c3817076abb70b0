import Derived.Test.YtaaogjhaokaggaaGreatDoorUtfX
import Derived.Test.YtaaogjhaokaggaaGreatDoorKeyB
import Derived.Test.YtaaogjhaokaggaaGreatDoorPutR
import Derived.Test.YtaaogjhaokaggaaGreatDoorSaidX
import Derived.Test.YtaaogjhaokaggaaGreatDoorSpX
import Derived.Test.YtaaogjhaokaggaaGreatDoorLawX
import Derived.Test.YtaaogjhaokaggaaGreatDoorEncoX
import Derived.Deep.RegionWith
namespace Go.Proofs.YtaaogjhaokaggaaGreatDoor
open Go.RowKit

theorem odd_any (c : UInt8) (w : World) : Calls Tryz.prog 53 #[.int .u8 (c.toNat : Int)] w fun e w' => e = .returned (.bool (odd c)) ∧ w' = w := by
  by_cases h1 : c.toNat < 32
  · have hi : (c.toNat : Int) < 32 := by omega
    have hr : odd c = true := by unfold odd; rw [decide_eq_true h1]; rfl
    rw [hr]; clear hr h1
    go_enter Tryz.func53, Tryz.ntmps53
    go_wp2_with fail
    go_ret
    exact ⟨rfl, rfl⟩
  · have hi : (32 : Int) ≤ (c.toNat : Int) := by omega
    by_cases h2 : c = 127
    · subst h2
      go_enter Tryz.func53, Tryz.ntmps53
      go_wp2_with fail
      go_ret
      exact ⟨rfl, rfl⟩
    · have hb : ((c.toNat : Int) == 127) = false := by
        rw [beq_eq_false_iff_ne]
        intro h
        exact h2 (UInt8.toNat_inj.1 (by simp only [UInt8.toNat_ofNat]; omega))
      have hr : odd c = false := by
        unfold odd; rw [decide_eq_false h1, beq_eq_false_iff_ne.2 h2]; rfl
      rw [hr]
      have hd : decide ((c.toNat : Int) < 32) = false := decide_eq_false (by omega)
      clear hr h1 h2
      go_enter Tryz.func53, Tryz.ntmps53
      go_wp2_with fail
      go_ret
      exact ⟨rfl, rfl⟩

set_option maxRecDepth 100000 in
set_option maxHeartbeats 1000000 in
theorem keyRight_any (s : ByteArray) (hs : s.size ≤ 1000000000) (w : World) :
    Calls Tryz.prog 29 #[.string s] w fun e w' => e = .returned (.bool (keyOk s.data.toList)) ∧ w' = w := by
  obtain ⟨R, hR⟩ : ∃ R, R = keyOk s.data.toList := ⟨_, rfl⟩
  rw [← hR]
  have HR := Lib.hid hR; clear hR
  have HU := Lib.hid (fun w => specUtf8_any s hs w)
  have e0 : s.data.toList.length = s.size := by simp
  have HL := Lib.hid e0; clear e0
  go_enter Tryz.func29, Tryz.ntmps29
  go_wp2_with fail
  go_loopw [3] (fun i wr => ∃ k : Nat, k ≤ s.size ∧ i = .int .i64 k ∧ Hid (∀ c, c ∈ s.data.toList.take k → odd c = false) ∧ wr = w) (fun i _ => s.size - (intOf i).toNat)
  case atStart => exact ⟨0, by omega, rfl, Lib.hid (by simp), rfl⟩
  case round =>
    obtain ⟨k, hk, rfl, hno, rfl⟩ := hrel
    by_cases hlt : k < s.size
    · obtain ⟨o, ho⟩ : ∃ o, o = odd s[k] := ⟨_, rfl⟩
      have hget := fun w => odd_any s[k] w
      rw [← ho] at hget
      have hts := take_succ s k hlt
      have hmem : s[k] ∈ s.data.toList := by
        have : s.data.toList[k]? = some s[k] := by rw [Array.getElem?_toList]; exact Array.getElem?_eq_getElem hlt
        exact List.mem_of_getElem? this
      have HO : Hid (o = odd s[k] ∧ s.data.toList.take (k + 1) = s.data.toList.take k ++ [s[k]] ∧ s[k] ∈ s.data.toList) := Lib.hid ⟨ho, hts, hmem⟩
      have HG := Lib.hid hget
      clear hts ho hmem hget
      cases o
      · go_wp2_with (go_at_call 53; refine (HG.out _).mono ?_; rintro e w3 ⟨rfl, rfl⟩)
        go_roundw
        case rel =>
          refine ⟨k + 1, by omega, by go_num, Lib.hid ?_, trivial⟩
          intro c hc
          rw [HO.out.2.1] at hc
          rcases List.mem_append.1 hc with h | h
          · exact hno.out c h
          · simp at h; rw [h]; exact HO.out.1.symm
        case measure => simp [intOf]; omega
      · have HRR : Hid (R = false) := Lib.hid (by
          rw [HR.out]
          have : s.data.toList.all (fun c => !odd c) = false := by
            rw [List.all_eq_false]
            exact ⟨s[k], HO.out.2.2, by rw [← HO.out.1]; decide⟩
          unfold keyOk
          rw [this]; simp)
        go_wp2_with (go_at_call 53; refine (HG.out _).mono ?_; rintro e w3 ⟨rfl, rfl⟩)
        go_ret
        exact ⟨ret_bool HRR.out.symm, rfl⟩
    · have : k = s.size := by omega
      subst this
      have hall : s.data.toList.all (fun c => !odd c) = true := by
        rw [List.all_eq_true]
        intro c hc
        have := hno.out c (by rw [List.take_of_length_le (Nat.le_of_eq HL.out)]; exact hc)
        rw [this]; rfl
      by_cases h0 : s.data.toList = []
      · have h1 : s.toList = [] := by rw [ByteArray.toList_eq]; exact h0
        have h2 : (!s.toList.isEmpty) = false := by rw [h1]; rfl
        have h3 : (s.toList.isEmpty) = true := by rw [h1]; rfl
        have HRR : Hid (R = false) := Lib.hid (by rw [HR.out]; simp [keyOk, h0])
        clear h0 h1 hall
        go_wp2_with fail
        go_ret
        exact ⟨ret_bool HRR.out.symm, rfl⟩
      have h1 : s.toList ≠ [] := by rw [ByteArray.toList_eq]; exact h0
      have h3 : (s.toList.isEmpty) = false := by rw [List.isEmpty_eq_false_iff]; exact h1
      have hsz : 1 ≤ s.size := by
        have := List.length_pos_iff.2 h0
        have := HL.out
        omega
      obtain ⟨v, hv⟩ : ∃ v, v = Lib.validD s.data.toList := ⟨_, rfl⟩
      rw [← hv] at HU
      have hlast : s.data.toList.getLast? = some s[s.size - 1] := by
        rw [List.getLast?_eq_getElem?, HL.out, Array.getElem?_toList]
        exact Array.getElem?_eq_getElem (by show s.size - 1 < s.size; omega)
      obtain ⟨x, hx⟩ : ∃ x : UInt8, x = s[s.size - 1] := ⟨_, rfl⟩
      have HRR : Hid (R = (v && !(x == 92))) := Lib.hid (by rw [HR.out, keyOk, hall, hlast, ← hx, ← hv, List.isEmpty_eq_false_iff.2 h0]; simp)
      have hix : ∀ wx, (Instr.index 9 (.string s) (.int .i64 ((s.size : Int) - 1))).run Tryz.prog wx = .ok (.int .u8 (x.toNat : Int)) wx := fun wx => by
        rw [show ((s.size : Int) - 1) = ((s.size - 1 : Nat) : Int) by omega]
        have hlt' : ((s.size - 1 : Nat) : Int) < (s.size : Int) := by omega
        simp [go_sem, Tryz.underlying9, hlt', hx]
      clear hall hlast hx h0 h1 hv
      cases v
      · have HF : Hid (R = false) := Lib.hid (by rw [HRR.out]; simp)
        go_wp2_with (go_at_call 33; refine (HU.out _).mono ?_; rintro e w1 ⟨rfl, rfl⟩)
        go_ret
        exact ⟨ret_bool HF.out.symm, rfl⟩
      by_cases h92 : x = 92
      · have hb : ((x.toNat : Int) != 92) = false := by rw [h92]; rfl
        have HF : Hid (R = false) := Lib.hid (by rw [HRR.out, h92]; rfl)
        clear h92
        go_wp2_with (go_at_call 33; refine (HU.out _).mono ?_; rintro e w1 ⟨rfl, rfl⟩)
        go_ret
        exact ⟨ret_bool HF.out.symm, rfl⟩
      · have hb : ((x.toNat : Int) != 92) = true := by
          rw [bne_iff_ne]
          intro h
          exact h92 (UInt8.toNat_inj.1 (by simp only [UInt8.toNat_ofNat]; omega))
        have HF : Hid (R = true) := Lib.hid (by rw [HRR.out]; simp [h92])
        clear h92
        go_wp2_with (go_at_call 33; refine (HU.out _).mono ?_; rintro e w1 ⟨rfl, rfl⟩)
        go_ret
        exact ⟨ret_bool HF.out.symm, rfl⟩
end Go.Proofs.YtaaogjhaokaggaaGreatDoor
namespace Go.Proofs.YtaaogjhaokaggaaGreatDoor
open Go.RowKit

theorem said_lineRaw (F : Nat → List UInt8) (hV : ValidSaid) (st : St) (p : PutD) (hop : p.op = 9) (hk : p.key.size ≤ 1000000) (hst : st.sec = 1 → st.start ≤ st.buf.length) (hlen : st.buf.length ≤ 100000000) : PutSaid F st p := by
  obtain ⟨op, key, value, ⟨kind, s, vn, u, f, x⟩, n, m, z⟩ := p
  simp only at hop hk
  subst hop
  intro B ea b w hG hE
  exact put_lineRaw b st key value kind s vn u f x n m z w hG hE hV hk hst hlen
theorem said_tagRaw (F : Nat → List UInt8) (hV : ValidSaid) (st : St) (p : PutD) (hop : p.op = 10) (hk : p.key.size ≤ 1000000) (hv : p.value.size ≤ 1000000) (hst : st.start ≤ st.buf.length) (hlen : st.buf.length ≤ 100000000) (hkl : st.key.length ≤ 1000000) : PutSaid F st p := by
  obtain ⟨op, key, value, ⟨kind, s, vn, u, f, x⟩, n, m, z⟩ := p
  simp only at hop hk hv
  subst hop
  intro B ea b w hG hE
  exact put_tagRaw b st key value kind s vn u f x n m z w hG hE hV hk hv hst hlen hkl
theorem said_prec (F : Nat → List UInt8) (st : St) (p : PutD) (q : Nat) (hop : p.op = 6) (hn : p.n = (q : Int)) (hq : q ≤ 3) : PutSaid F st p := by
  obtain ⟨op, key, value, ⟨kind, s, vn, u, f, x⟩, n, m, z⟩ := p
  simp only at hop hn
  subst hop hn
  intro B ea b w hG hE
  have := put_prec b st key value kind s vn u f x q m z w hq hE
  simp only [PutD.step, PutD.cells]
  rw [if_neg (by decide), if_neg (by decide), if_neg (by decide), if_neg (by decide), if_neg (by decide), if_neg (by decide), if_pos trivial, if_pos ⟨Int.natCast_nonneg _, by omega⟩]
  exact this
theorem said_fieldRaw {F : Nat → List UInt8} {fin : Nat → Prop} (hV : ValidSaid) (hF : FloatSaid F fin) (st : St) (p : PutD) (hop : p.op = 11) (hk : p.key.size ≤ 1000000) (hst : st.start ≤ st.buf.length) (hlen : st.buf.length ≤ 100000000)
    (hok : p.v.Ok) (hFV : p.v.kind = 4 → FloatValueSaid) (hfin : ∀ n, p.v.made = some (.flt n) → fin n) (y : Val) (hy : p.v.made = some y) : PutSaid F st p := by
  have hM := fun {B : Nat} {ea : Addr} w (hG : Gl B ea w) => value_any hV p.v hok hFV w hG.toGv
  intro B ea b w hG hE
  obtain ⟨op, key, value, ⟨kind, s, vn, u, f, x⟩, n, m, z⟩ := p
  simp only at hop hk
  subst hop
  simp only [PutD.step, PutD.cells]
  rw [if_neg (by decide), if_neg (by decide), if_pos (.inr trivial)]
  simp only at hy
  simp only [hy] at hM ⊢
  refine put_fieldRaw b st key value kind s vn u f x n m z w hG hE hV hF hk hst hlen y (fun n hn => hfin n (by rw [hy, hn])) (fun t ht => ?_) (fun w hG => hM w hG)
  have := hok.s
  simp only [VD.made] at hy
  subst ht
  repeat' split at hy
  all_goals first | (cases hy; simpa using this) | cases hy

theorem tdiv_in (n m : Int) (h0 : -9223372036854775808 ≤ n) (h1 : n ≤ 9223372036854775807) (hm : 0 < m) : -9223372036854775808 ≤ n.tdiv m ∧ n.tdiv m ≤ 9223372036854775807 := by
  rcases Int.le_total 0 n with h | h
  · rw [Int.tdiv_eq_ediv_of_nonneg h]
    have h2 := Int.ediv_nonneg h (Int.le_of_lt hm)
    have h3 := Int.ediv_le_self m h
    omega
  · obtain ⟨k, rfl⟩ : ∃ k, n = -k := ⟨-n, by omega⟩
    rw [Int.neg_tdiv, Int.tdiv_eq_ediv_of_nonneg (by omega)]
    have h2 := Int.ediv_nonneg (show 0 ≤ k by omega) (Int.le_of_lt hm)
    have h3 := Int.ediv_le_self m (show 0 ≤ k by omega)
    omega
theorem stoodL_len (F : Nat → List UInt8) (l : List PutD) : ∀ n, (∀ k, k ≤ n → ∃ st, sts F l k = some st) → (stoodL F l n).length = 3 * n
  | 0, _ => rfl
  | n + 1, h => by
    obtain ⟨st, hs⟩ := h (n + 1) (Nat.le_refl _)
    have h1 := stoodL_len F l n (fun k hk => h k (by omega))
    have e : stoodL F l (n + 1) = stoodL F l n ++ stood st := by simp only [stoodL, hs]
    rw [e, List.length_append, h1]
    simp only [stood, List.length_cons, List.length_nil]
    omega
theorem stoodL_at (F : Nat → List UInt8) (l : List PutD) : ∀ n j st, j < n → (∀ k, k ≤ n → ∃ st, sts F l k = some st) → sts F l (j + 1) = some st →
    (stoodL F l n)[j * 3]? = some (.bool (st.err != 0)) ∧ (stoodL F l n)[j * 3 + 1]? = some (.bool (st.err == 2)) ∧ (stoodL F l n)[j * 3 + 2]? = some (.int .i64 st.buf.length)
  | 0, _, _, hj, _, _ => absurd hj (Nat.not_lt_zero _)
  | n + 1, j, st, hj, h, hs => by
    have hl := stoodL_len F l n (fun k hk => h k (by omega))
    obtain ⟨st2, hs2⟩ := h (n + 1) (Nat.le_refl _)
    have e : stoodL F l (n + 1) = stoodL F l n ++ stood st2 := by simp only [stoodL, hs2]
    rw [e]
    by_cases hjn : j = n
    · subst hjn
      rw [hs] at hs2
      cases hs2
      rw [List.getElem?_append_right (by omega), List.getElem?_append_right (by omega), List.getElem?_append_right (by omega), hl, show j * 3 - 3 * j = 0 by omega, show j * 3 + 1 - 3 * j = 1 by omega, show j * 3 + 2 - 3 * j = 2 by omega]
      exact ⟨rfl, rfl, rfl⟩
    · rw [List.getElem?_append_left (by omega), List.getElem?_append_left (by omega), List.getElem?_append_left (by omega)]
      exact stoodL_at F l n j st (by omega) (fun k hk => h k (by omega)) hs
theorem ticks_pos (p : Nat) : ticks p > 0 := by
  unfold ticks
  repeat' split
  all_goals decide
end Go.Proofs.YtaaogjhaokaggaaGreatDoor
namespace Go.Proofs.YtaaogjhaokaggaaGreatDoor
open Go.RowKit

set_option maxRecDepth 100000 in
theorem setBuf_any {B : Nat} {ea : Addr} (b : Nat) (st : St) (l : List UInt8) (v : Value) (w : World) (h : Enc B ea w b st) (hO : Own w 5 v l) (hB : ∀ g, v.ownBlock = some g → B ≤ g) (hap : ∀ u g, w.cell? ⟨b, 1, none⟩ = some u → v.ownBlock = some g → u.ownBlock ≠ some g) :
    Calls Tryz.prog 87 #[.pointer (some ⟨b, 0, none⟩), v] w fun e w' => e = .returned (.tuple #[]) ∧ Mid B ea b { st with buf := l, sec := 0, err := 0 } w w' := by
  obtain ⟨vb, vk, ve, pi, hE⟩ := h
  obtain ⟨⟨c0, c1, c2, c3, c4, c5, c6, c7, c8⟩, f0, f1, f2, f3, f4, f5, f6, f7, f8⟩ := hE.row.all
  have hf : Fr [b] w ((w.setCell ⟨b, 0, none⟩ v).setCell ⟨b, 7, none⟩ (.int .i64 0)) := ((Fr.refl [b] w).setCell (.inl (by simp)) _).setCell (.inl (by simp)) _
  have hE2 : EncC B ea ((w.setCell ⟨b, 0, none⟩ v).setCell ⟨b, 7, none⟩ (.int .i64 0)) b { st with buf := l } v vk ve 0 :=
    ⟨(hE.row.set 0 _).set 7 _, hO.fr hf (fun g hg hm => by simp at hm; subst hm; exact hE.row.ne hO hg), hE.okey.fr hf (fun g hg hm => by simp at hm; subst hm; exact hE.row.ne hE.okey hg), fun g hg => hap vk g c1 hg, hB, hE.lowk, hE.low, hE.er.frB hf hE.row⟩
  have hC := clearErr_any b { st with buf := l } _ ⟨v, vk, ve, 0, hE2⟩
  have HLOW := Lib.hid hE.low
  have HF := Lib.hid (FrE.self hE.low hf)
  have HC := Lib.hid hC
  obtain ⟨va, vn, vc, rfl⟩ : ∃ a n c, v = .slice a n c := by
    rcases hO with ⟨rfl, _⟩ | ⟨g, cap, rfl, _⟩
    · exact ⟨_, _, _, rfl⟩
    · exact ⟨_, _, _, rfl⟩
  clear hC hE2 hf hE hO hB hap
  go_enter Tryz.func87, Tryz.ntmps87
  go_wp2_with (go_at_call 83; refine HC.out.mono ?_; rintro e w1 ⟨rfl, hm⟩; obtain ⟨hm1, hm2⟩ := hm; obtain ⟨vb3, vk3, ve3, pi3, hE3⟩ := hm1; obtain ⟨⟨-, -, -, d3, -, -, -, -, -⟩, -, -, -, e3, -, -, -, -, -⟩ := hE3.row.all; have HE3 := Lib.hid hE3; have HM2 := Lib.hid (HF.out.trans hm2); clear hE3 hm2)
  go_end0
  exact ⟨rfl, ⟨vb3, vk3, ve3, pi3, HE3.out.reE ((Fr.refl [b] w1).setCell (.inl (by simp)) _) _ _ _ (HE3.out.row.set 3 _) rfl rfl HE3.out.er⟩, HM2.out.trans (FrE.self HLOW.out ((Fr.refl [b] w1).setCell (.inl (by simp)) _))⟩

set_option maxRecDepth 100000 in
theorem reset_any {B : Nat} {ea : Addr} (b : Nat) (st : St) (w : World) (h : Enc B ea w b st) :
    Calls Tryz.prog 84 #[.pointer (some ⟨b, 0, none⟩)] w fun e w' => e = .returned (.tuple #[]) ∧ Mid B ea b { st with buf := [], sec := 0, err := 0 } w w' := by
  have h0 := h
  obtain ⟨vb, vk, ve, pi, hE⟩ := h
  obtain ⟨⟨c0, c1, c2, c3, c4, c5, c6, c7, c8⟩, f0, f1, f2, f3, f4, f5, f6, f7, f8⟩ := hE.row.all
  have hS : ∀ a n c, vb = .slice a n c → Calls Tryz.prog 87 #[.pointer (some ⟨b, 0, none⟩), .slice a 0 c] w fun e w' => e = .returned (.tuple #[]) ∧ Mid B ea b { st with buf := [], sec := 0, err := 0 } w w' := fun a n c hv => by
    refine setBuf_any b st [] _ w h0 ?_ ?_ ?_
    · rcases hE.obuf with ⟨hv2, _⟩ | ⟨g, cap, hv2, cur, fr, k1, k2, k3, k4, k5, k6⟩
      · rw [hv] at hv2; cases hv2; exact Own.nil _ _
      · rw [hv] at hv2; cases hv2
        exact .inr ⟨g, _, rfl, cur, fr, k1, k2, k3, Nat.zero_le _, k5, rfl⟩
    · intro g hg
      cases a with
      | none => simp [Value.ownBlock] at hg
      | some a => exact hE.lowb g (by rw [hv]; simpa [Value.ownBlock] using hg)
    · intro u g hu hg
      rw [c1] at hu
      cases hu
      cases a with
      | none => simp [Value.ownBlock] at hg
      | some a => exact hE.apart g (by rw [hv]; simpa [Value.ownBlock] using hg)
  obtain ⟨va, vn, vc, rfl⟩ : ∃ a n c, vb = .slice a n c := by
    rcases hE.obuf with ⟨rfl, _⟩ | ⟨g, cap, rfl, _⟩
    · exact ⟨_, _, _, rfl⟩
    · exact ⟨_, _, _, rfl⟩
  have HS := Lib.hid (hS _ _ _ rfl)
  clear hS hE h0
  go_enter Tryz.func84, Tryz.ntmps84
  go_wp2_with (go_at_call 87; refine HS.out.mono ?_; rintro e w1 ⟨rfl, hm⟩)
  go_end0
  exact ⟨rfl, hm⟩

set_option maxRecDepth 100000 in
set_option maxHeartbeats 2000000 in
theorem put_buf {B : Nat} {ea : Addr} (b : Nat) (st : St) (key value : ByteArray) (k : Int) (s : ByteArray) (vn : Int) (u f : Nat) (x : Bool) (n m : Int) (z : Bool) (w : World) (hG : Gl B ea w) (h : Enc B ea w b st) (hk : key.size ≤ 1000000) :
    Calls Tryz.prog 45 #[.pointer (some ⟨b, 0, none⟩), .agg #[.int .i64 8, .string key, .string value, .int .i64 k, .string s, .int .i64 vn, .int .u64 u, .float .f64 f, .bool x, .int .i64 n, .int .i64 m, .bool z]] w fun e w' => e = .returned (.bool true) ∧ Mid B ea b { st with buf := key.data.toList, sec := 0, err := 0 } w w' := by
  have HF0 := Lib.hid (pw0_fr 8 key value k s vn u f x n m z w)
  obtain ⟨c, w2, hcv, ho2, hf2⟩ := conv_str key (by omega) (pw0 8 key value k s vn u f x n m z w)
  have HF2 := Lib.hid (HF0.out.trans hf2)
  have hps := pw0_size 8 key value k s vn u f x n m z w
  have hbig := hG.big
  have hS := setBuf_any b st key.data.toList _ w2 (h.fr HF2.out) ho2 (fun g hg => by
    simp [Value.ownBlock] at hg; omega) (fun u g hu hg => by
    simp [Value.ownBlock] at hg
    obtain ⟨vb, vk, ve, pi, hE⟩ := h
    obtain ⟨⟨-, c1, -⟩, -⟩ := hE.row.all
    rw [HF2.out.cell c1 (by simp)] at hu
    cases hu
    intro he
    have := hE.okey.lt g he
    omega)
  obtain ⟨ST, hST⟩ : ∃ y : St, y = { st with buf := key.data.toList, sec := 0, err := 0 } := ⟨_, rfl⟩
  rw [← hST] at hS ⊢
  rw [hps] at hcv hS
  simp only [pw0] at hcv
  have HS := Lib.hid hS
  clear hS hST hG h ho2 hf2 hps hbig
  go_enter Tryz.func45, Tryz.ntmps45
  go_wp2_with (go_at_call 87; refine HS.out.mono ?_; rintro e w3 ⟨rfl, hm⟩)
  go_ret
  exact ⟨rfl, hm.pre HF2.out⟩
set_option maxRecDepth 100000 in
set_option maxHeartbeats 2000000 in
theorem put_reset {B : Nat} {ea : Addr} (b : Nat) (st : St) (key value : ByteArray) (k : Int) (s : ByteArray) (vn : Int) (u f : Nat) (x : Bool) (n m : Int) (z : Bool) (w : World) (h : Enc B ea w b st) :
    Calls Tryz.prog 45 #[.pointer (some ⟨b, 0, none⟩), .agg #[.int .i64 5, .string key, .string value, .int .i64 k, .string s, .int .i64 vn, .int .u64 u, .float .f64 f, .bool x, .int .i64 n, .int .i64 m, .bool z]] w fun e w' => e = .returned (.bool true) ∧ Mid B ea b { st with buf := [], sec := 0, err := 0 } w w' := by
  have HF0 := Lib.hid (pw0_fr 5 key value k s vn u f x n m z w)
  have hS := reset_any b st (pw0 5 key value k s vn u f x n m z w) (h.fr HF0.out)
  obtain ⟨ST, hST⟩ : ∃ y : St, y = { st with buf := [], sec := 0, err := 0 } := ⟨_, rfl⟩
  rw [← hST] at hS ⊢
  have HS := Lib.hid hS
  clear hS hST h
  go_enter Tryz.func45, Tryz.ntmps45
  go_wp2_with (go_at_call 84; refine HS.out.mono ?_; rintro e w3 ⟨rfl, hm⟩)
  go_ret
  exact ⟨rfl, hm.pre HF0.out⟩
theorem said_buf (F : Nat → List UInt8) (st : St) (p : PutD) (hop : p.op = 8) (hk : p.key.size ≤ 1000000) : PutSaid F st p := by
  obtain ⟨op, key, value, ⟨kind, s, vn, u, f, x⟩, n, m, z⟩ := p
  simp only at hop hk
  subst hop
  intro B ea b w hG hE
  exact put_buf b st key value kind s vn u f x n m z w hG hE hk
theorem said_reset (F : Nat → List UInt8) (st : St) (p : PutD) (hop : p.op = 5) : PutSaid F st p := by
  obtain ⟨op, key, value, ⟨kind, s, vn, u, f, x⟩, n, m, z⟩ := p
  simp only at hop
  subst hop
  intro B ea b w _ hE
  exact put_reset b st key value kind s vn u f x n m z w hE
end Go.Proofs.YtaaogjhaokaggaaGreatDoor
