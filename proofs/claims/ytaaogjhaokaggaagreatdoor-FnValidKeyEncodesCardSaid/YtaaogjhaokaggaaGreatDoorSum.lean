import Derived.Test.YtaaogjhaokaggaaGreatDoorSaid
namespace Go.Proofs.YtaaogjhaokaggaaGreatDoor
open Go.RowKit

def VD0 : VD := ⟨0, ⟨#[]⟩, 0, 0, 0, false⟩
def lineP : PutD := ⟨0, ⟨#[109]⟩, ⟨#[]⟩, VD0, 0, 0, false⟩
def fieldP : PutD := ⟨2, ⟨#[102]⟩, ⟨#[]⟩, ⟨5, ⟨#[]⟩, 0, 0, 0, false⟩, 0, 0, false⟩
def endP (n m : Int) : PutD := ⟨3, ⟨#[]⟩, ⟨#[]⟩, VD0, n, m, false⟩
def sumL (n m : Int) : List PutD := [lineP, fieldP, endP n m]

def F0 : Nat → List UInt8 := fun _ => []
def stL : St := ⟨[109], [], 0, 1, false, false, 0, 0⟩
def stF : St := ⟨[109, 32, 102, 61, 102, 97, 108, 115, 101], [], 0, 2, false, false, 0, 0⟩
theorem st_line : PutD.step F0 St0 lineP = some stL := by kernel_rfl
theorem st_field : PutD.step F0 stL fieldP = some stF := by kernel_rfl
theorem st_end (n m : Int) : PutD.step F0 stF (endP n m) = some (stF.endl (some (n + m))) := rfl
theorem sum_sts (n m : Int) : sts F0 (sumL n m) 1 = some stL ∧ sts F0 (sumL n m) 2 = some stF ∧ sts F0 (sumL n m) 3 = some (stF.endl (some (n + m))) := by
  have h1 : sts F0 (sumL n m) 1 = some stL := st_line
  have h2 : sts F0 (sumL n m) 2 = some stF := by
    show (sts F0 (sumL n m) 1).bind _ = _
    rw [h1]; exact st_field
  refine ⟨h1, h2, ?_⟩
  show (sts F0 (sumL n m) 2).bind _ = _
  rw [h2]; exact st_end n m
theorem end_far (t : Int) (h : t < -9223372036854775808 ∨ t > 9223372036854775807) : stF.endl (some t) = ⟨[], [], 0, 0, false, true, 2, 0⟩ := by
  unfold St.endl
  rw [if_neg (by decide)]
  simp only [if_pos h]
  rfl
theorem end_near (t : Int) (h : ¬ (t < -9223372036854775808 ∨ t > 9223372036854775807)) : stF.endl (some t) = ⟨[109, 32, 102, 61, 102, 97, 108, 115, 101] ++ ([32] ++ Lib.itoa t ++ [10]), [], 0, 5, false, false, 0, 0⟩ := by
  unfold St.endl
  rw [if_neg (by decide)]
  simp only [if_neg h]
  rfl
theorem sum_said (hV : ValidSaid) (n m : Int) (hn0 : -9223372036854775808 ≤ n) (hn1 : n ≤ 9223372036854775807) (hm0 : -9223372036854775808 ≤ m) (hm1 : m ≤ 9223372036854775807) :
    ∀ k p st, (sumL n m)[k]? = some p → sts F0 (sumL n m) k = some st → PutSaid F0 st p := by
  intro k p st hp hs
  obtain ⟨h1, h2, _⟩ := sum_sts n m
  match k, hp with
  | 0, hp =>
    cases hp; cases hs
    exact said_line F0 hV St0 lineP rfl (by decide) (by decide) (by decide)
  | 1, hp =>
    cases hp; rw [h1] at hs; cases hs
    exact said_field hV noFloat stL fieldP rfl (by decide) (by decide) (by decide) ⟨by decide, by decide, by decide, by decide⟩ (fun h => absurd h (by decide)) (fun n hn => by cases (show some (Val.bool false) = some (.flt n) from hn))
  | 2, hp =>
    cases hp; rw [h2] at hs; cases hs
    exact said_end F0 stF (endP n m) rfl (by decide) (by decide) hn0 hn1 hm0 hm1
  | k + 3, hp => simp [sumL] at hp

/-- Encode of the three calls. -/
theorem sum_encode (hV : ValidSaid) {ea : Addr} {B0 : Nat} (n m : Int) (hn0 : -9223372036854775808 ≤ n) (hn1 : n ≤ 9223372036854775807) (hm0 : -9223372036854775808 ≤ m) (hm1 : m ≤ 9223372036854775807) (v : Value) (w : World) (hG : Gl B0 ea w) (hP : OwnC w 38 12 v 3 ((sumL n m).flatMap (·.cells.toList))) :
    Calls Tryz.prog 23 #[v] w fun e w' => ∃ (s : ByteArray) (g cap : Nat) (er out : Bool), e = .returned (.tuple #[.string s, .slice (some ⟨g, 0, none⟩) 3 cap, .bool true]) ∧ Fr [] w w' ∧ 3 ≤ cap ∧ w'.cell? ⟨g, 6, none⟩ = some (.bool er) ∧ w'.cell? ⟨g, 7, none⟩ = some (.bool out) ∧
      ((n + m < -9223372036854775808 ∨ n + m > 9223372036854775807) → s = ⟨#[]⟩ ∧ er = true ∧ out = true) ∧
      (¬ (n + m < -9223372036854775808 ∨ n + m > 9223372036854775807) → s = ⟨([109, 32, 102, 61, 102, 97, 108, 115, 101] ++ ([32] ++ Lib.itoa (n + m) ++ [10])).toArray⟩ ∧ er = false ∧ out = false) := by
  refine (encode_any F0 (sumL n m) v w hG (PutsIn.of hP) (by simp [sumL]) (sum_said hV n m hn0 hn1 hm0 hm1)).mono ?_
  rintro e w' ⟨hf, h⟩
  obtain ⟨h1, h2, h3⟩ := sum_sts n m
  have hl : (sumL n m).length = 3 := rfl
  rw [hl] at h
  simp only [h3] at h
  obtain ⟨vl, rfl, ho⟩ := h
  obtain ⟨g, cap, rfl, hc, _, hcell⟩ := ho.row (by decide)
  have e3 : stoodL F0 (sumL n m) 3 = (stood stL ++ stood stF) ++ stood (stF.endl (some (n + m))) := by
    simp only [stoodL, h1, h2, h3]; rfl
  rw [e3] at hcell
  refine ⟨_, g, cap, (stF.endl (some (n + m))).err != 0, (stF.endl (some (n + m))).err == 2, rfl, hf, hc, hcell 6 _ rfl, hcell 7 _ rfl, fun h => ?_, fun h => ?_⟩
  · rw [end_far _ h]; exact ⟨rfl, rfl, rfl⟩
  · rw [end_near _ h]; exact ⟨rfl, rfl, rfl⟩
end Go.Proofs.YtaaogjhaokaggaaGreatDoor
