import Derived.Test.YtaaogjhaokaggaaGreatDoorEachC
import Derived.Test.YtaaogjhaokaggaaGreatDoorPutB
namespace Go.Proofs.YtaaogjhaokaggaaGreatDoor
open Go.RowKit

theorem nice_runs : ∀ (l : List PutD), (∀ p, p ∈ l → Nice p) → ∀ {K : Nat} {st : St}, Fine K st → ∃ st', runs fTx st l = some st' ∧ Fine (K + 20000 * l.length) st'
  | [], _, _, st, hf => ⟨st, rfl, hf.le (by simp)⟩
  | p :: r, hl, K, st, hf => by
    obtain ⟨s1, h1, h2⟩ := nice_step (hl p (by simp)) hf
    obtain ⟨s2, h3, h4⟩ := nice_runs r (fun q hq => hl q (by simp [hq])) h2
    refine ⟨s2, ?_, h4.le (by simp only [List.length_cons]; omega)⟩
    simp only [runs, h1, Option.bind_some]
    exact h3
theorem buf_step (F : Nat → List UInt8) (b : ByteArray) : (bufP b).step F St0 = some { St0 with buf := b.data.toList } := by unfold PutD.step bufP; simp [St0]
theorem buf_sts (b : ByteArray) (hb : b.size ≤ 2000) (l : List PutD) (hl : ∀ p, p ∈ l → Nice p) : ∀ k, k ≤ l.length → ∃ st, sts fTx (bufP b :: l) (k + 1) = some st ∧ Fine (2000 + 20000 * k) st := by
  intro k hk
  have h0 : Fine 2000 { St0 with buf := b.data.toList } := ⟨by simp [St0], by simpa using hb, by simp [St0]⟩
  obtain ⟨st, h1, h2⟩ := nice_runs (l.take k) (fun p hp => hl p (List.mem_of_mem_take hp)) h0
  refine ⟨st, ?_, h2.le (by rw [List.length_take]; omega)⟩
  rw [sts_runs fTx (bufP b :: l) (k + 1) (by simp; omega)]
  simp only [List.take_succ_cons, runs, buf_step, Option.bind_some]
  exact h1
/-- Encode of nice calls behind a buffer. -/
theorem buf_encode (hV : ValidSaid) {ea : Addr} {B0 : Nat} (b : ByteArray) (hb : b.size ≤ 2000) (l : List PutD) (hl : ∀ p, p ∈ l → Nice p) (hn : l.length ≤ 4000) (v : Value) (w : World) (hG : Gl B0 ea w) (hP : OwnC w 38 12 v (l.length + 1) (cellsOf (bufP b :: l))) :
    Calls Tryz.prog 23 #[v] w (EncRes fTx (bufP b :: l) w) :=
  encode_any fTx (bufP b :: l) v w hG (PutsIn.of hP) (by simp only [List.length_cons]; omega) (fun k p st hp hs => by
    cases k with
    | zero =>
      simp at hp
      subst hp
      exact said_buf fTx st (bufP b) rfl (show b.size ≤ 1000000 by omega)
    | succ k =>
      have hp' : l[k]? = some p := by simpa using hp
      have hk := (List.getElem?_eq_some_iff.1 hp').1
      obtain ⟨st', h1, h2⟩ := buf_sts b hb l hl k (by omega)
      rw [hs] at h1
      cases h1
      exact nice_said hV (hl p (List.mem_of_getElem? hp')) h2 (by omega))
end Go.Proofs.YtaaogjhaokaggaaGreatDoor
