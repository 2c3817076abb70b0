import Derived.Test.YtaaogjhaokaggaaGreatDoorKeyP
import Derived.Test.YtaaogjhaokaggaaGreatDoorSum
namespace Go.Proofs.YtaaogjhaokaggaaGreatDoor
open Go.RowKit

def keyL (a b c d : ByteArray) : List PutD := [⟨0, a, ⟨#[]⟩, VD0, 0, 0, false⟩, ⟨1, b, c, VD0, 0, 0, false⟩, ⟨2, d, ⟨#[]⟩, ⟨5, ⟨#[]⟩, 0, 0, 0, false⟩, 0, 0, false⟩, ⟨3, ⟨#[]⟩, ⟨#[]⟩, VD0, 1, 0, false⟩]
def k1 (a : ByteArray) : St := St0.line a.data.toList
def k2 (a b c : ByteArray) : St := (k1 a).tag b.data.toList c.data.toList
def k3 (a b c d : ByteArray) : St := (k2 a b c).field F0 d.data.toList (.bool false)
def k4 (a b c d : ByteArray) : St := (k3 a b c d).endl (some 1)
theorem key_sts (a b c d : ByteArray) : sts F0 (keyL a b c d) 1 = some (k1 a) ∧ sts F0 (keyL a b c d) 2 = some (k2 a b c) ∧ sts F0 (keyL a b c d) 3 = some (k3 a b c d) ∧ sts F0 (keyL a b c d) 4 = some (k4 a b c d) := by
  have h1 : sts F0 (keyL a b c d) 1 = some (k1 a) := rfl
  have h2 : sts F0 (keyL a b c d) 2 = some (k2 a b c) := by
    show (sts F0 (keyL a b c d) 1).bind _ = _
    rw [h1]; rfl
  have h3 : sts F0 (keyL a b c d) 3 = some (k3 a b c d) := by
    show (sts F0 (keyL a b c d) 2).bind _ = _
    rw [h2]; rfl
  refine ⟨h1, h2, h3, ?_⟩
  show (sts F0 (keyL a b c d) 3).bind _ = _
  rw [h3]; rfl

theorem keyOk_ne (l : List UInt8) (h : keyOk l = true) : l ≠ [] := by
  rintro rfl; cases h
theorem keyLe_nil (l : List UInt8) (h : l ≠ []) : keyLe l [] = false := by
  cases l with
  | nil => exact absurd rfl h
  | cons x t => rfl
theorem key_err (a b c d : ByteArray) : ((k4 a b c d).err != 0) = !(keyOk a.data.toList && keyOk b.data.toList && keyOk c.data.toList && keyOk d.data.toList) := by
  have fin : ∀ st : St, st.err ≠ 0 → (st.err != 0) = true := fun st h => by simpa using h
  cases ha : keyOk a.data.toList with
  | false =>
    have h1 : (k1 a).err ≠ 0 := by simp [k1, St.line, St0, ha, St.fail]
    have h4 : (k4 a b c d).err ≠ 0 := err_endl _ _ (err_field _ _ _ _ (err_tag _ _ _ h1))
    rw [fin _ h4]; rfl
  | true =>
    have e1 : k1 a = ⟨esc (tOf sM) a.data.toList, [], 0, 1, false, false, 0, 0⟩ := by simp [k1, St.line, St0, ha]
    by_cases hbc : keyOk b.data.toList = true ∧ keyOk c.data.toList = true
    · obtain ⟨hb, hc⟩ := hbc
      have hle := keyLe_nil _ (keyOk_ne _ hb)
      have e2 : k2 a b c = ⟨esc (tOf sM) a.data.toList ++ ([44] ++ esc (tOf sK) b.data.toList ++ [61] ++ esc (tOf sV) c.data.toList), b.data.toList, 0, 1, false, false, 0, 0⟩ := by
        simp [k2, e1, St.tag, hb, hc, hle]
      cases hd : keyOk d.data.toList with
      | false =>
        have h3 : (k3 a b c d).err ≠ 0 := by simp [k3, e2, St.field, hd, St.fail]
        have h4 : (k4 a b c d).err ≠ 0 := err_endl _ _ h3
        rw [fin _ h4, hb, hc]; rfl
      | true =>
        have h3 : (k3 a b c d).sec = 2 ∧ (k3 a b c d).bad = false ∧ (k3 a b c d).err = 0 := by simp [k3, e2, St.field, hd]
        obtain ⟨q1, q2, q3⟩ := h3
        have h4 : (k4 a b c d).err = 0 := by
          unfold k4 St.endl
          rw [if_neg (by rw [q1]; decide)]
          simp only [if_neg (show ¬ ((1 : Int) < -9223372036854775808 ∨ (1 : Int) > 9223372036854775807) by decide), q2]
          exact q3
        rw [h4, hb, hc]; rfl
    · have h2 : (k2 a b c).err ≠ 0 := by
        have hx : keyOk b.data.toList = false ∨ keyOk c.data.toList = false := by
          cases hb : keyOk b.data.toList <;> cases hc : keyOk c.data.toList <;> simp_all
        have hx' : keyOk b.data.toList = false ∨ keyOk c.data.toList = false ∨ keyLe b.data.toList [] = true := by
          rcases hx with h | h
          · exact .inl h
          · exact .inr (.inl h)
        unfold k2 St.tag
        rw [e1]
        simp only
        rw [if_neg (by decide), if_pos ⟨trivial, hx'⟩]
        exact err_fail _ _ (by decide)
      have h4 : (k4 a b c d).err ≠ 0 := err_endl _ _ (err_field _ _ _ _ h2)
      rw [fin _ h4]
      cases hb : keyOk b.data.toList <;> cases hc : keyOk c.data.toList <;> simp_all

theorem k_fine (a b c d : ByteArray) (ha : a.size ≤ 1000) (hb : b.size ≤ 1000) (hc : c.size ≤ 1000) (hd : d.size ≤ 1000) : Fine 100000 (k1 a) ∧ Fine 100000 (k2 a b c) ∧ Fine 100000 (k3 a b c d) := by
  have la : a.data.toList.length ≤ 1000 := by simpa using ha
  have lb : b.data.toList.length ≤ 1000 := by simpa using hb
  have lc : c.data.toList.length ≤ 1000 := by simpa using hc
  have ld : d.data.toList.length ≤ 1000 := by simpa using hd
  have f0 : Fine 0 St0 := ⟨by decide, by decide, by decide⟩
  have f1 : Fine 3000 (k1 a) := (f0.line a.data.toList 1000 la).le (by decide)
  have f2 : Fine 10000 (k2 a b c) := (f1.tag _ _ 1000 lb lc (by decide)).le (by decide)
  have f3 : Fine 20000 (k3 a b c d) := (f2.field F0 _ (.bool false) 1000 10 ld (by decide)).le (by decide)
  exact ⟨f1.le (by decide), f2.le (by decide), f3.le (by decide)⟩

theorem okF : VD.Ok ⟨5, ⟨#[]⟩, 0, 0, 0, false⟩ := ⟨by decide, by decide, by decide, by decide⟩
theorem key_said (hV : ValidSaid) (a b c d : ByteArray) (ha : a.size ≤ 1000) (hb : b.size ≤ 1000) (hc : c.size ≤ 1000) (hd : d.size ≤ 1000) :
    ∀ k p st, (keyL a b c d)[k]? = some p → sts F0 (keyL a b c d) k = some st → PutSaid F0 st p := by
  intro k p st hp hs
  obtain ⟨h1, h2, h3, _⟩ := key_sts a b c d
  obtain ⟨f1, f2, f3⟩ := k_fine a b c d ha hb hc hd
  match k, hp with
  | 0, hp =>
    cases hp; cases hs
    exact said_line F0 hV St0 _ rfl (Nat.le_trans ha (by decide)) (by decide) (by decide)
  | 1, hp =>
    cases hp; rw [h1] at hs; cases hs
    exact said_tag F0 hV _ _ rfl (Nat.le_trans hb (by decide)) (Nat.le_trans hc (by decide)) f1.1 (Nat.le_trans f1.2.1 (by decide)) f1.2.2
  | 2, hp =>
    cases hp; rw [h2] at hs; cases hs
    exact said_field hV noFloat _ _ rfl (Nat.le_trans hd (by decide)) f2.1 (Nat.le_trans f2.2.1 (by decide)) okF (fun h => absurd (show (5 : Int) = 4 from h) (by decide)) (fun n hn => by cases (show some (Val.bool false) = some (.flt n) from hn))
  | 3, hp =>
    cases hp; rw [h3] at hs; cases hs
    exact said_end F0 _ _ rfl f3.1 (Nat.le_trans f3.2.1 (by decide)) (by decide) (by decide) (by decide) (by decide)
  | k + 4, hp => simp [keyL] at hp

/-- Encode of the four calls. -/
theorem key_encode (hV : ValidSaid) {ea : Addr} {B0 : Nat} (a b c d : ByteArray) (ha : a.size ≤ 1000) (hb : b.size ≤ 1000) (hc : c.size ≤ 1000) (hd : d.size ≤ 1000) (v : Value) (w : World) (hG : Gl B0 ea w) (hP : OwnC w 38 12 v 4 ((keyL a b c d).flatMap (·.cells.toList))) :
    Calls Tryz.prog 23 #[v] w fun e w' => ∃ (s : ByteArray) (g cap : Nat), e = .returned (.tuple #[.string s, .slice (some ⟨g, 0, none⟩) 4 cap, .bool true]) ∧ Fr [] w w' ∧ 4 ≤ cap ∧
      w'.cell? ⟨g, 9, none⟩ = some (.bool (!(keyOk a.data.toList && keyOk b.data.toList && keyOk c.data.toList && keyOk d.data.toList))) := by
  refine (encode_any F0 (keyL a b c d) v w hG (PutsIn.of hP) (by simp [keyL]) (key_said hV a b c d ha hb hc hd)).mono ?_
  rintro e w' ⟨hf, h⟩
  obtain ⟨h1, h2, h3, h4⟩ := key_sts a b c d
  have hl : (keyL a b c d).length = 4 := rfl
  rw [hl] at h
  simp only [h4] at h
  obtain ⟨vl, rfl, ho⟩ := h
  obtain ⟨g, cap, rfl, hcap, _, hcell⟩ := ho.row (by decide)
  have e4 : stoodL F0 (keyL a b c d) 4 = ((stood (k1 a) ++ stood (k2 a b c)) ++ stood (k3 a b c d)) ++ stood (k4 a b c d) := by
    simp only [stoodL, h1, h2, h3, h4]; rfl
  rw [e4] at hcell
  refine ⟨_, g, cap, rfl, hf, hcap, ?_⟩
  rw [← key_err]
  exact hcell 9 _ rfl

set_option maxRecDepth 100000 in
theorem vk_any (hV : ValidSaid) {B : Nat} {ea : Addr} (s : ByteArray) (w : World) (hs : s.size ≤ 1000000) (hG : Gl B ea w) :
    Calls Tryz.prog 25 #[.string s] w fun e w' => e = .returned (.bool (keyOk s.data.toList)) ∧ Fr [] w w' := by
  go_enter Tryz.func25, Tryz.ntmps25
  go_wp2_with (first
    | (go_at_call 50; go_in)
    | (go_at_call 91; refine (validKey_any hV s _ hs hG).mono ?_; rintro e w1 ⟨rfl, hf1⟩))
  go_ret
  exact ⟨rfl, hf1⟩
end Go.Proofs.YtaaogjhaokaggaaGreatDoor
