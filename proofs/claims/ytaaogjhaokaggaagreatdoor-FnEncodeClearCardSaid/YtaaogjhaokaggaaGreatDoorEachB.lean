import Derived.Test.YtaaogjhaokaggaaGreatDoorPutR
import Derived.Test.YtaaogjhaokaggaaGreatDoorEachC
namespace Go.Proofs.YtaaogjhaokaggaaGreatDoor
open Go.RowKit

set_option maxRecDepth 100000 in
theorem setBuf_any {B : Nat} {ea : Addr} (b : Nat) (st : St) (l : List UInt8) (v : Value) (w : World) (h : Enc B ea w b st) (hO : Own w 5 v l) (hB : ∀ g, v.ownBlock = some g → B ≤ g) (hap : ∀ u g, w.cell? ⟨b, 1, none⟩ = some u → v.ownBlock = some g → u.ownBlock ≠ some g) :
    Calls Tryz.prog 87 #[.pointer (some ⟨b, 0, none⟩), v] w fun e w' => e = .returned (.tuple #[]) ∧ Mid B ea b { st with buf := l, sec := 0, err := 0 } w w' := by
  obtain ⟨vb, vk, ve, pi, hE⟩ := h
  obtain ⟨⟨c0, c1, c2, c3, c4, c5, c6, c7, c8⟩, f0, f1, f2, f3, f4, f5, f6, f7, f8⟩ := hE.row.all
  have hf : Fr [b] w ((w.setCell ⟨b, 0, none⟩ v).setCell ⟨b, 7, none⟩ (.int .i64 0)) := ((Fr.refl [b] w).setCell (.inl (by simp)) _).setCell (.inl (by simp)) _
  have hE2 : EncC B ea ((w.setCell ⟨b, 0, none⟩ v).setCell ⟨b, 7, none⟩ (.int .i64 0)) b { st with buf := l } v vk ve 0 :=
    ⟨(hE.row.set 0 _).set 7 _, hO.fr hf (fun g hg hm => by simp at hm; subst hm; exact hE.row.ne hO hg), hE.okey.fr hf (fun g hg hm => by simp at hm; subst hm; exact hE.row.ne hE.okey hg), fun g hg => hap vk g c1 hg, hB, hE.lowk, hE.low, hE.er.frB hf hE.row⟩
  have hC := clearErr_any b { st with buf := l } _ ⟨v, vk, ve, 0, hE2⟩
  have HLOW := Lib.hid hE.low
  have HF := Lib.hid (FrE.self hE.low hf)
  have HC := Lib.hid hC
  obtain ⟨va, vn, vc, rfl⟩ : ∃ a n c, v = .slice a n c := by
    rcases hO with ⟨rfl, _⟩ | ⟨g, cap, rfl, _⟩
    · exact ⟨_, _, _, rfl⟩
    · exact ⟨_, _, _, rfl⟩
  clear hC hE2 hf hE hO hB hap
  go_enter Tryz.func87, Tryz.ntmps87
  go_wp2_with (go_at_call 83; refine HC.out.mono ?_; rintro e w1 ⟨rfl, hm⟩; obtain ⟨hm1, hm2⟩ := hm; obtain ⟨vb3, vk3, ve3, pi3, hE3⟩ := hm1; obtain ⟨⟨-, -, -, d3, -, -, -, -, -⟩, -, -, -, e3, -, -, -, -, -⟩ := hE3.row.all; have HE3 := Lib.hid hE3; have HM2 := Lib.hid (HF.out.trans hm2); clear hE3 hm2)
  go_end0
  exact ⟨rfl, ⟨vb3, vk3, ve3, pi3, HE3.out.reE ((Fr.refl [b] w1).setCell (.inl (by simp)) _) _ _ _ (HE3.out.row.set 3 _) rfl rfl HE3.out.er⟩, HM2.out.trans (FrE.self HLOW.out ((Fr.refl [b] w1).setCell (.inl (by simp)) _))⟩

set_option maxRecDepth 100000 in
theorem reset_any {B : Nat} {ea : Addr} (b : Nat) (st : St) (w : World) (h : Enc B ea w b st) :
    Calls Tryz.prog 84 #[.pointer (some ⟨b, 0, none⟩)] w fun e w' => e = .returned (.tuple #[]) ∧ Mid B ea b { st with buf := [], sec := 0, err := 0 } w w' := by
  have h0 := h
  obtain ⟨vb, vk, ve, pi, hE⟩ := h
  obtain ⟨⟨c0, c1, c2, c3, c4, c5, c6, c7, c8⟩, f0, f1, f2, f3, f4, f5, f6, f7, f8⟩ := hE.row.all
  have hS : ∀ a n c, vb = .slice a n c → Calls Tryz.prog 87 #[.pointer (some ⟨b, 0, none⟩), .slice a 0 c] w fun e w' => e = .returned (.tuple #[]) ∧ Mid B ea b { st with buf := [], sec := 0, err := 0 } w w' := fun a n c hv => by
    refine setBuf_any b st [] _ w h0 ?_ ?_ ?_
    · rcases hE.obuf with ⟨hv2, _⟩ | ⟨g, cap, hv2, cur, fr, k1, k2, k3, k4, k5, k6⟩
      · rw [hv] at hv2; cases hv2; exact Own.nil _ _
      · rw [hv] at hv2; cases hv2
        exact .inr ⟨g, _, rfl, cur, fr, k1, k2, k3, Nat.zero_le _, k5, rfl⟩
    · intro g hg
      cases a with
      | none => simp [Value.ownBlock] at hg
      | some a => exact hE.lowb g (by rw [hv]; simpa [Value.ownBlock] using hg)
    · intro u g hu hg
      rw [c1] at hu
      cases hu
      cases a with
      | none => simp [Value.ownBlock] at hg
      | some a => exact hE.apart g (by rw [hv]; simpa [Value.ownBlock] using hg)
  obtain ⟨va, vn, vc, rfl⟩ : ∃ a n c, vb = .slice a n c := by
    rcases hE.obuf with ⟨rfl, _⟩ | ⟨g, cap, rfl, _⟩
    · exact ⟨_, _, _, rfl⟩
    · exact ⟨_, _, _, rfl⟩
  have HS := Lib.hid (hS _ _ _ rfl)
  clear hS hE h0
  go_enter Tryz.func84, Tryz.ntmps84
  go_wp2_with (go_at_call 87; refine HS.out.mono ?_; rintro e w1 ⟨rfl, hm⟩)
  go_end0
  exact ⟨rfl, hm⟩

set_option maxRecDepth 100000 in
set_option maxHeartbeats 2000000 in
theorem put_buf {B : Nat} {ea : Addr} (b : Nat) (st : St) (key value : ByteArray) (k : Int) (s : ByteArray) (vn : Int) (u f : Nat) (x : Bool) (n m : Int) (z : Bool) (w : World) (hG : Gl B ea w) (h : Enc B ea w b st) (hk : key.size ≤ 1000000) :
    Calls Tryz.prog 45 #[.pointer (some ⟨b, 0, none⟩), .agg #[.int .i64 8, .string key, .string value, .int .i64 k, .string s, .int .i64 vn, .int .u64 u, .float .f64 f, .bool x, .int .i64 n, .int .i64 m, .bool z]] w fun e w' => e = .returned (.bool true) ∧ Mid B ea b { st with buf := key.data.toList, sec := 0, err := 0 } w w' := by
  have HF0 := Lib.hid (pw0_fr 8 key value k s vn u f x n m z w)
  obtain ⟨c, w2, hcv, ho2, hf2⟩ := conv_str key (by omega) (pw0 8 key value k s vn u f x n m z w)
  have HF2 := Lib.hid (HF0.out.trans hf2)
  have hps := pw0_size 8 key value k s vn u f x n m z w
  have hbig := hG.big
  have hS := setBuf_any b st key.data.toList _ w2 (h.fr HF2.out) ho2 (fun g hg => by
    simp [Value.ownBlock] at hg; omega) (fun u g hu hg => by
    simp [Value.ownBlock] at hg
    obtain ⟨vb, vk, ve, pi, hE⟩ := h
    obtain ⟨⟨-, c1, -⟩, -⟩ := hE.row.all
    rw [HF2.out.cell c1 (by simp)] at hu
    cases hu
    intro he
    have := hE.okey.lt g he
    omega)
  obtain ⟨ST, hST⟩ : ∃ y : St, y = { st with buf := key.data.toList, sec := 0, err := 0 } := ⟨_, rfl⟩
  rw [← hST] at hS ⊢
  rw [hps] at hcv hS
  simp only [pw0] at hcv
  have HS := Lib.hid hS
  clear hS hST hG h ho2 hf2 hps hbig
  go_enter Tryz.func45, Tryz.ntmps45
  go_wp2_with (go_at_call 87; refine HS.out.mono ?_; rintro e w3 ⟨rfl, hm⟩)
  go_ret
  exact ⟨rfl, hm.pre HF2.out⟩
set_option maxRecDepth 100000 in
set_option maxHeartbeats 2000000 in
theorem put_reset {B : Nat} {ea : Addr} (b : Nat) (st : St) (key value : ByteArray) (k : Int) (s : ByteArray) (vn : Int) (u f : Nat) (x : Bool) (n m : Int) (z : Bool) (w : World) (h : Enc B ea w b st) :
    Calls Tryz.prog 45 #[.pointer (some ⟨b, 0, none⟩), .agg #[.int .i64 5, .string key, .string value, .int .i64 k, .string s, .int .i64 vn, .int .u64 u, .float .f64 f, .bool x, .int .i64 n, .int .i64 m, .bool z]] w fun e w' => e = .returned (.bool true) ∧ Mid B ea b { st with buf := [], sec := 0, err := 0 } w w' := by
  have HF0 := Lib.hid (pw0_fr 5 key value k s vn u f x n m z w)
  have hS := reset_any b st (pw0 5 key value k s vn u f x n m z w) (h.fr HF0.out)
  obtain ⟨ST, hST⟩ : ∃ y : St, y = { st with buf := [], sec := 0, err := 0 } := ⟨_, rfl⟩
  rw [← hST] at hS ⊢
  have HS := Lib.hid hS
  clear hS hST h
  go_enter Tryz.func45, Tryz.ntmps45
  go_wp2_with (go_at_call 84; refine HS.out.mono ?_; rintro e w3 ⟨rfl, hm⟩)
  go_ret
  exact ⟨rfl, hm.pre HF0.out⟩
theorem said_buf (F : Nat → List UInt8) (st : St) (p : PutD) (hop : p.op = 8) (hk : p.key.size ≤ 1000000) : PutSaid F st p := by
  obtain ⟨op, key, value, ⟨kind, s, vn, u, f, x⟩, n, m, z⟩ := p
  simp only at hop hk
  subst hop
  intro B ea b w hG hE
  exact put_buf b st key value kind s vn u f x n m z w hG hE hk
theorem said_reset (F : Nat → List UInt8) (st : St) (p : PutD) (hop : p.op = 5) : PutSaid F st p := by
  obtain ⟨op, key, value, ⟨kind, s, vn, u, f, x⟩, n, m, z⟩ := p
  simp only at hop
  subst hop
  intro B ea b w _ hE
  exact put_reset b st key value kind s vn u f x n m z w hE
end Go.Proofs.YtaaogjhaokaggaaGreatDoor
namespace Go.Proofs.YtaaogjhaokaggaaGreatDoor
open Go.RowKit

theorem nice_runs : ∀ (l : List PutD), (∀ p, p ∈ l → Nice p) → ∀ {K : Nat} {st : St}, Fine K st → ∃ st', runs fTx st l = some st' ∧ Fine (K + 20000 * l.length) st'
  | [], _, _, st, hf => ⟨st, rfl, hf.le (by simp)⟩
  | p :: r, hl, K, st, hf => by
    obtain ⟨s1, h1, h2⟩ := nice_step (hl p (by simp)) hf
    obtain ⟨s2, h3, h4⟩ := nice_runs r (fun q hq => hl q (by simp [hq])) h2
    refine ⟨s2, ?_, h4.le (by simp only [List.length_cons]; omega)⟩
    simp only [runs, h1, Option.bind_some]
    exact h3
theorem buf_step (F : Nat → List UInt8) (b : ByteArray) : (bufP b).step F St0 = some { St0 with buf := b.data.toList } := by unfold PutD.step bufP; simp [St0]
theorem buf_sts (b : ByteArray) (hb : b.size ≤ 2000) (l : List PutD) (hl : ∀ p, p ∈ l → Nice p) : ∀ k, k ≤ l.length → ∃ st, sts fTx (bufP b :: l) (k + 1) = some st ∧ Fine (2000 + 20000 * k) st := by
  intro k hk
  have h0 : Fine 2000 { St0 with buf := b.data.toList } := ⟨by simp [St0], by simpa using hb, by simp [St0]⟩
  obtain ⟨st, h1, h2⟩ := nice_runs (l.take k) (fun p hp => hl p (List.mem_of_mem_take hp)) h0
  refine ⟨st, ?_, h2.le (by rw [List.length_take]; omega)⟩
  rw [sts_runs fTx (bufP b :: l) (k + 1) (by simp; omega)]
  simp only [List.take_succ_cons, runs, buf_step, Option.bind_some]
  exact h1
/-- Encode of nice calls behind a buffer. -/
theorem buf_encode (hV : ValidSaid) {ea : Addr} {B0 : Nat} (b : ByteArray) (hb : b.size ≤ 2000) (l : List PutD) (hl : ∀ p, p ∈ l → Nice p) (hn : l.length ≤ 4000) (v : Value) (w : World) (hG : Gl B0 ea w) (hP : OwnC w 38 12 v (l.length + 1) (cellsOf (bufP b :: l))) :
    Calls Tryz.prog 23 #[v] w (EncRes fTx (bufP b :: l) w) :=
  encode_any fTx (bufP b :: l) v w hG (PutsIn.of hP) (by simp only [List.length_cons]; omega) (fun k p st hp hs => by
    cases k with
    | zero =>
      simp at hp
      subst hp
      exact said_buf fTx st (bufP b) rfl (show b.size ≤ 1000000 by omega)
    | succ k =>
      have hp' : l[k]? = some p := by simpa using hp
      have hk := (List.getElem?_eq_some_iff.1 hp').1
      obtain ⟨st', h1, h2⟩ := buf_sts b hb l hl k (by omega)
      rw [hs] at h1
      cases h1
      exact nice_said hV (hl p (List.mem_of_getElem? hp')) h2 (by omega))
end Go.Proofs.YtaaogjhaokaggaaGreatDoor
