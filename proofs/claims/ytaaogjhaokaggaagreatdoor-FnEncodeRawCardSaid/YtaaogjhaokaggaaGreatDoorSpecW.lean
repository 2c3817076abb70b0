import Derived.Test.YtaaogjhaokaggaaGreatDoorSpecP
import Derived.Test.YtaaogjhaokaggaaGreatDoorSpX
import Derived.Test.YtaaogjhaokaggaaGreatDoorSpcL
import Derived.Test.YtaaogjhaokaggaaGreatDoorSpcT
import Derived.Test.YtaaogjhaokaggaaGreatDoorSpcU
import Derived.Test.YtaaogjhaokaggaaGreatDoorSpcD
import Derived.Test.YtaaogjhaokaggaaGreatDoorSpcG
import Derived.Test.YtaaogjhaokaggaaGreatDoorSpcH
import Derived.Test.YtaaogjhaokaggaaGreatDoorSpcO
namespace Go.Proofs.YtaaogjhaokaggaaGreatDoor
open Go.RowKit

/-- The cells of spec's encoder. -/
def spCells (E : Sp) : Array Value := #[.string ⟨E.buf.toArray⟩, .int .i64 E.start, .int .i64 E.part, .bool E.bad, .string ⟨E.key.toArray⟩, .bool E.err, .bool E.out, .bool E.lax, .int .i64 E.prec, .bool E.begun, .bool E.stale]
def Sp.failed (E : Sp) (o : Bool) : Sp := { E with bad := true, err := true, out := if E.err then E.out else o, buf := E.buf.take E.start, part := if E.buf.take E.start = [] then 0 else E.part }
theorem fails_live {E : Sp} (h : E.stale = false) (o : Bool) : E.fails o = some (E.failed o) := by
  unfold Sp.fails Sp.failed
  rw [if_neg (by rw [h]; decide)]
theorem fails_old {E : Sp} (h : E.stale = true) (o : Bool) : E.fails o = none := by
  unfold Sp.fails
  rw [if_pos h]
theorem cast_if (c : Prop) [Decidable c] (a b : Nat) : (((if c then a else b : Nat) : Nat) : Int) = if c then (a : Int) else (b : Int) := by split <;> rfl
theorem failRow_eq (E : Sp) (h : E.stale = false) (o : Bool) : failRow E.buf E.start (E.part : Int) (.string ⟨E.key.toArray⟩) E.err E.out o (.bool E.lax) (.int .i64 E.prec) (.bool E.begun) = spCells (E.failed o) := by
  unfold failRow spCells Sp.failed
  simp only [cast_if, h]
  rfl
/-- What spec.Put answers, and how the encoder stands then. -/
def PutRes (E : Sp) (p : PutD) (b : Nat) (w : World) (e : Ending) (w' : World) : Prop :=
  Fr [b] w w' ∧ match E.put p with
    | some E2 => e = .returned (.bool true) ∧ SR w' b (spCells E2)
    | none => e = .returned (.bool false)
theorem res_stale {E E' : Sp} {p : PutD} {b : Nat} {w w' : World} {e : Ending} {o : Bool} (h : E.put p = E'.fails o) (hs : E'.stale = true) (hh : e = .returned (.bool false) ∧ Fr [b] w w') : PutRes E p b w e w' := by
  refine ⟨hh.2, ?_⟩
  rw [h, fails_old hs]
  exact hh.1
theorem res_ok {E E2 : Sp} {p : PutD} {b : Nat} {w w' : World} {e : Ending} {cs : Array Value} (h : E.put p = some E2) (hc : cs = spCells E2) (hh : e = .returned (.bool true) ∧ SR w' b cs ∧ Fr [b] w w') : PutRes E p b w e w' := by
  refine ⟨hh.2.2, ?_⟩
  rw [h]
  exact ⟨hh.1, by rw [← hc]; exact hh.2.1⟩
theorem res_fail {E E' : Sp} {p : PutD} {b : Nat} {w w' : World} {e : Ending} {o : Bool} {cs : Array Value} (h : E.put p = E'.fails o) (hs : E'.stale = false) (hc : cs = failRow E'.buf E'.start (E'.part : Int) (.string ⟨E'.key.toArray⟩) E'.err E'.out o (.bool E'.lax) (.int .i64 E'.prec) (.bool E'.begun))
    (hh : e = .returned (.bool true) ∧ SR w' b cs ∧ Fr [b] w w') : PutRes E p b w e w' :=
  res_ok (h.trans (fails_live hs o)) (hc.trans (failRow_eq E' hs o)) hh
theorem arr_list (k : ByteArray) : (⟨k.data.toList.toArray⟩ : ByteArray) = k := by
  apply ByteArray.ext
  simp
theorem key_true {k : ByteArray} (hk : k.size ≤ 4000) {r : Bool} (h : keyOk k.data.toList = r) (w : World) : Calls Tryz.prog 29 #[.string k] w fun e w' => e = .returned (.bool r) ∧ w' = w := by
  have := keyRight_any k (by omega) w
  rw [h] at this
  exact this
theorem esc_said (q : Nat) (hq : q ≤ 3) {k : ByteArray} (hk : k.size ≤ 4000) (w : World) : Calls Tryz.prog 42 #[.int .i64 (q : Int), .string k] w fun e w' => e = .returned (.string ⟨(spEsc q k.data.toList).toArray⟩) ∧ Fr [] w w' := specEscQ q hq k (by omega) w
theorem esc_len1 (q : Nat) {k : ByteArray} (hk : k.size ≤ 4000) : (spEsc q k.data.toList).length ≤ 1000000 := by
  have h1 := spEsc_len q k.data.toList
  have h2 : k.data.toList.length = k.size := by simp
  omega
/-- A line's state at its begin. -/
def Sp.begin (E : Sp) : Sp := { E with key := [], start := E.buf.length, bad := false, begun := true, stale := false }
theorem line_one {E : Sp} (h1 : E.part = 1) (hs : E.stale = false) (k : List UInt8) : E.line k = if E.lax = false ∧ keyOk k = false then (E.failed false).begin.fails false
    else some { (E.failed false).begin with buf := (E.failed false).buf ++ ([10] ++ spEsc 0 k) } := by
  obtain ⟨buf, start, part, bad, ekey, err, out, lax, prec, begun, stale⟩ := E
  simp only at h1 hs
  subst h1 hs
  unfold Sp.line
  rw [if_pos rfl]
  have : (⟨buf, start, 1, bad, ekey, err, out, lax, prec, begun, false⟩ : Sp).fails false = _ := fails_live rfl false
  simp only [this, Option.bind_some]
  rfl
theorem line_other {E : Sp} (h1 : ¬ E.part = 1) (_h : True = True) (k : List UInt8) : E.line k = if E.lax = false ∧ keyOk k = false then ({ E with part := 1 } : Sp).begin.fails false
    else some { ({ E with part := 1 } : Sp).begin with buf := E.buf ++ ((if E.part ≠ 0 ∧ E.part ≠ 5 then [10] else []) ++ spEsc 0 k) } := by
  unfold Sp.line
  rw [if_neg h1, Option.bind_some]
  rfl
set_option maxRecDepth 100000 in
theorem ticks_any (n : Int) (h0 : 0 ≤ n) (h3 : n ≤ 3) (w : World) : Calls Tryz.prog 93 #[.int .i64 n] w fun e w' => e = .returned (.int .i64 (ticks n.toNat)) ∧ Fr [] w w' := by
  have hc : n = 0 ∨ n = 1 ∨ n = 2 ∨ n = 3 := by omega
  rcases hc with rfl | rfl | rfl | rfl
  all_goals
    go_enter Tryz.func93, Tryz.ntmps93
    go_wp2
    go_ret
    exact ⟨rfl, (Fr.refl [] w).alloc _⟩
set_option maxHeartbeats 4000000 in
theorem sput_line (E : Sp) (p : PutD) (hop : p.op = 0 ∨ p.op = 9) (hp : PutBd p) (b : Nat) (w : World) (hB : E.buf.length ≤ 100000000) (hs : E.stale = false → E.start ≤ E.buf.length) (h : SR w b (spCells E)) :
    Calls Tryz.prog 52 #[.pointer (some ⟨b, 0, none⟩), .agg p.cells] w (PutRes E p b w) := by
  have hk := hp.key
  have hv := hp.value
  obtain ⟨buf, start, part, bad, ekey, err, out, lax, prec, begun, stale⟩ := E
  obtain ⟨op, key, value, ⟨k, s, vn, u, f, x⟩, n, m, z⟩ := p
  simp only at hop hk hv hB hs
  have hput : (⟨buf, start, part, bad, ekey, err, out, lax, prec, begun, stale⟩ : Sp).put ⟨op, key, value, ⟨k, s, vn, u, f, x⟩, n, m, z⟩ = (⟨buf, start, part, bad, ekey, err, out, lax, prec, begun, stale⟩ : Sp).line key.data.toList := by
    unfold Sp.put
    rw [if_pos hop]
  have hX := esc_len1 0 hk
  have hE := fun w => esc_said 0 (by decide) hk w
  clear hp
  by_cases h1 : part = 1
  · subst h1
    cases stale with
    | true =>
      exact Calls.mono (spl_stale (key := key) (value := value) (s := s) (k := k) (vn := vn) (u := u) (f := f) (x := x) (n := n) (m := m) (z := z) (hop := hop) (h := h)) fun e w' hh => res_stale (E' := (⟨buf, start, 1, bad, ekey, err, out, lax, prec, begun, true⟩ : Sp)) (o := false) (by rw [hput]; rfl) rfl hh
    | false =>
      have hs := hs rfl
      cases lax with
      | true =>
        refine Calls.mono (spl_a_lax (key := key) (value := value) (s := s) (k := k) (vn := vn) (u := u) (f := f) (x := x) (n := n) (m := m) (z := z) (hop := hop) (hB := hB) (hs := hs) (hX := hX) (hE := hE) (h := h)) fun e w' hh => res_ok (hput.trans ((line_one (E := (⟨buf, start, 1, bad, ekey, err, out, true, prec, begun, false⟩ : Sp)) rfl rfl key.data.toList).trans (if_neg (by simp)))) ?_ hh
        simp only [spCells, Sp.begin, Sp.failed, cast_if, List.append_assoc]; (try rfl)
      | false =>
        cases hkk : keyOk key.data.toList with
        | true =>
          refine Calls.mono (spl_a_strict (key := key) (value := value) (s := s) (k := k) (vn := vn) (u := u) (f := f) (x := x) (n := n) (m := m) (z := z) (hop := hop) (hB := hB) (hs := hs) (hK := fun w => key_true hk hkk w) (hX := hX) (hE := hE) (h := h)) fun e w' hh => res_ok (hput.trans ((line_one (E := (⟨buf, start, 1, bad, ekey, err, out, false, prec, begun, false⟩ : Sp)) rfl rfl key.data.toList).trans (if_neg (by simp [hkk])))) ?_ hh
          simp only [spCells, Sp.begin, Sp.failed, cast_if, List.append_assoc]; (try rfl)
        | false =>
          refine Calls.mono (spl_a_fail (key := key) (value := value) (s := s) (k := k) (vn := vn) (u := u) (f := f) (x := x) (n := n) (m := m) (z := z) (hop := hop) (hB := hB) (hs := hs) (hK := fun w => key_true hk hkk w) (h := h)) fun e w' hh => res_fail (hput.trans ((line_one (E := (⟨buf, start, 1, bad, ekey, err, out, false, prec, begun, false⟩ : Sp)) rfl rfl key.data.toList).trans (if_pos ⟨rfl, hkk⟩))) rfl ?_ hh
          simp only [Sp.begin, Sp.failed, cast_if]; (try rfl)
  · have q1 : ((part : Int) == 1) = false := by rw [beq_eq_false_iff_ne]; omega
    by_cases h0 : part = 0
    · subst h0
      cases lax with
      | true =>
        refine Calls.mono (spl_0_lax (key := key) (value := value) (s := s) (k := k) (vn := vn) (u := u) (f := f) (x := x) (n := n) (m := m) (z := z) (hop := hop) (hB := hB) (hX := hX) (hE := hE) (h := h)) fun e w' hh => res_ok (hput.trans ((line_other (E := (⟨buf, start, 0, bad, ekey, err, out, true, prec, begun, stale⟩ : Sp)) (fun hh => absurd (show (0 : Nat) = 1 from hh) (by decide)) rfl key.data.toList).trans (if_neg (by simp)))) ?_ hh
        simp only [spCells, Sp.begin, ne_eq, not_true, false_and, if_false, List.nil_append]; (try rfl)
      | false =>
        cases hkk : keyOk key.data.toList with
        | true =>
          refine Calls.mono (spl_0_strict (key := key) (value := value) (s := s) (k := k) (vn := vn) (u := u) (f := f) (x := x) (n := n) (m := m) (z := z) (hop := hop) (hB := hB) (hK := fun w => key_true hk hkk w) (hX := hX) (hE := hE) (h := h)) fun e w' hh => res_ok (hput.trans ((line_other (E := (⟨buf, start, 0, bad, ekey, err, out, false, prec, begun, stale⟩ : Sp)) (fun hh => absurd (show (0 : Nat) = 1 from hh) (by decide)) rfl key.data.toList).trans (if_neg (by simp [hkk])))) ?_ hh
          simp only [spCells, Sp.begin, ne_eq, not_true, false_and, if_false, List.nil_append]; (try rfl)
        | false =>
          refine Calls.mono (spl_0_fail (key := key) (value := value) (s := s) (k := k) (vn := vn) (u := u) (f := f) (x := x) (n := n) (m := m) (z := z) (hop := hop) (hK := fun w => key_true hk hkk w) (h := h)) fun e w' hh => res_fail (hput.trans ((line_other (E := (⟨buf, start, 0, bad, ekey, err, out, false, prec, begun, stale⟩ : Sp)) (fun hh => absurd (show (0 : Nat) = 1 from hh) (by decide)) rfl key.data.toList).trans (if_pos ⟨rfl, hkk⟩))) rfl ?_ hh
          simp only [Sp.begin]; (try rfl)
    · by_cases h5 : part = 5
      · subst h5
        cases lax with
        | true =>
          refine Calls.mono (spl_5_lax (key := key) (value := value) (s := s) (k := k) (vn := vn) (u := u) (f := f) (x := x) (n := n) (m := m) (z := z) (hop := hop) (hB := hB) (hX := hX) (hE := hE) (h := h)) fun e w' hh => res_ok (hput.trans ((line_other (E := (⟨buf, start, 5, bad, ekey, err, out, true, prec, begun, stale⟩ : Sp)) (fun hh => absurd (show (5 : Nat) = 1 from hh) (by decide)) rfl key.data.toList).trans (if_neg (by simp)))) ?_ hh
          simp only [spCells, Sp.begin, ne_eq, not_true, and_false, if_false, List.nil_append]; (try rfl)
        | false =>
          cases hkk : keyOk key.data.toList with
          | true =>
            refine Calls.mono (spl_5_strict (key := key) (value := value) (s := s) (k := k) (vn := vn) (u := u) (f := f) (x := x) (n := n) (m := m) (z := z) (hop := hop) (hB := hB) (hK := fun w => key_true hk hkk w) (hX := hX) (hE := hE) (h := h)) fun e w' hh => res_ok (hput.trans ((line_other (E := (⟨buf, start, 5, bad, ekey, err, out, false, prec, begun, stale⟩ : Sp)) (fun hh => absurd (show (5 : Nat) = 1 from hh) (by decide)) rfl key.data.toList).trans (if_neg (by simp [hkk])))) ?_ hh
            simp only [spCells, Sp.begin, ne_eq, not_true, and_false, if_false, List.nil_append]; (try rfl)
          | false =>
            refine Calls.mono (spl_5_fail (key := key) (value := value) (s := s) (k := k) (vn := vn) (u := u) (f := f) (x := x) (n := n) (m := m) (z := z) (hop := hop) (hK := fun w => key_true hk hkk w) (h := h)) fun e w' hh => res_fail (hput.trans ((line_other (E := (⟨buf, start, 5, bad, ekey, err, out, false, prec, begun, stale⟩ : Sp)) (fun hh => absurd (show (5 : Nat) = 1 from hh) (by decide)) rfl key.data.toList).trans (if_pos ⟨rfl, hkk⟩))) rfl ?_ hh
            simp only [Sp.begin]; (try rfl)
      · have q0 : ((part : Int) != 0) = true := by rw [bne_iff_ne]; omega
        have q5 : ((part : Int) != 5) = true := by rw [bne_iff_ne]; omega
        cases lax with
        | true =>
          refine Calls.mono (spl_x_lax (key := key) (value := value) (s := s) (k := k) (vn := vn) (u := u) (f := f) (x := x) (n := n) (m := m) (z := z) (hop := hop) (hB := hB) (p0 := q0) (p1 := q1) (p5 := q5) (hX := hX) (hE := hE) (h := h)) fun e w' hh => res_ok (hput.trans ((line_other (E := (⟨buf, start, part, bad, ekey, err, out, true, prec, begun, stale⟩ : Sp)) h1 rfl key.data.toList).trans (if_neg (by simp)))) ?_ hh
          simp only [spCells, Sp.begin, List.append_assoc, ne_eq, h0, h5, not_false_eq_true, and_self, if_true]; (try rfl)
        | false =>
          cases hkk : keyOk key.data.toList with
          | true =>
            refine Calls.mono (spl_x_strict (key := key) (value := value) (s := s) (k := k) (vn := vn) (u := u) (f := f) (x := x) (n := n) (m := m) (z := z) (hop := hop) (hB := hB) (p0 := q0) (p1 := q1) (p5 := q5) (hK := fun w => key_true hk hkk w) (hX := hX) (hE := hE) (h := h)) fun e w' hh => res_ok (hput.trans ((line_other (E := (⟨buf, start, part, bad, ekey, err, out, false, prec, begun, stale⟩ : Sp)) h1 rfl key.data.toList).trans (if_neg (by simp [hkk])))) ?_ hh
            simp only [spCells, Sp.begin, List.append_assoc, ne_eq, h0, h5, not_false_eq_true, and_self, if_true]; (try rfl)
          | false =>
            refine Calls.mono (spl_x_fail (key := key) (value := value) (s := s) (k := k) (vn := vn) (u := u) (f := f) (x := x) (n := n) (m := m) (z := z) (hop := hop) (p1 := q1) (hK := fun w => key_true hk hkk w) (h := h)) fun e w' hh => res_fail (hput.trans ((line_other (E := (⟨buf, start, part, bad, ekey, err, out, false, prec, begun, stale⟩ : Sp)) h1 rfl key.data.toList).trans (if_pos ⟨rfl, hkk⟩))) rfl ?_ hh
            simp only [Sp.begin]; (try rfl)
set_option maxHeartbeats 4000000 in
theorem sput_tag (E : Sp) (p : PutD) (hop : p.op = 1 ∨ p.op = 10) (hp : PutBd p) (b : Nat) (w : World) (hB : E.buf.length ≤ 100000000) (hs : E.stale = false → E.start ≤ E.buf.length) (h : SR w b (spCells E)) :
    Calls Tryz.prog 52 #[.pointer (some ⟨b, 0, none⟩), .agg p.cells] w (PutRes E p b w) := by
  have hk := hp.key
  have hv := hp.value
  obtain ⟨buf, start, part, bad, ekey, err, out, lax, prec, begun, stale⟩ := E
  obtain ⟨op, key, value, ⟨k, s, vn, u, f, x⟩, n, m, z⟩ := p
  simp only at hop hk hv hB hs
  have hput : (⟨buf, start, part, bad, ekey, err, out, lax, prec, begun, stale⟩ : Sp).put ⟨op, key, value, ⟨k, s, vn, u, f, x⟩, n, m, z⟩ = (⟨buf, start, part, bad, ekey, err, out, lax, prec, begun, stale⟩ : Sp).tag key.data.toList value.data.toList := by
    unfold Sp.put
    rw [if_neg (by rcases hop with rfl | rfl <;> simp), if_pos hop]
  have hX1 : (spEsc 1 key.data.toList).length ≤ 4000000 := Nat.le_trans (esc_len1 1 hk) (by decide)
  have hX2 : (spEsc 2 value.data.toList).length ≤ 4000000 := Nat.le_trans (esc_len1 2 hv) (by decide)
  have hE1 := fun w => esc_said 1 (by decide) hk w
  have hE2 := fun w => esc_said 2 (by decide) hv w
  clear hp
  by_cases h1 : part = 1
  case neg =>
    have q1 : ¬ (part : Int) = 1 := by omega
    have hfl : (⟨buf, start, part, bad, ekey, err, out, lax, prec, begun, stale⟩ : Sp).tag key.data.toList value.data.toList = (⟨buf, start, part, bad, ekey, err, out, lax, prec, begun, stale⟩ : Sp).fails false := by
      unfold Sp.tag
      rw [if_pos h1]
    cases stale with
    | true => exact Calls.mono (spt_part_stale (key := key) (value := value) (s := s) (k := k) (vn := vn) (u := u) (f := f) (x := x) (n := n) (m := m) (z := z) (hop := hop) (p1 := q1) (h := h)) fun e w' hh => res_stale (hput.trans hfl) rfl hh
    | false => exact Calls.mono (spt_part_live (key := key) (value := value) (s := s) (k := k) (vn := vn) (u := u) (f := f) (x := x) (n := n) (m := m) (z := z) (hop := hop) (p1 := q1) (hs := hs rfl) (h := h)) fun e w' hh => res_fail (hput.trans hfl) rfl rfl hh

  subst h1
  cases lax with
  | true =>
    cases bad with
    | true =>
      have htl : (⟨buf, start, 1, true, ekey, err, out, true, prec, begun, stale⟩ : Sp).tag key.data.toList value.data.toList = some (⟨buf, start, 1, true, ekey, err, out, true, prec, begun, stale⟩ : Sp) := by
        unfold Sp.tag
        rw [if_neg (by simp), if_neg (by simp)]
        rfl
      refine Calls.mono (spt_l_true (key := key) (value := value) (s := s) (k := k) (vn := vn) (u := u) (f := f) (x := x) (n := n) (m := m) (z := z) (hop := hop) (h := h)) fun e w' hh => res_ok (hput.trans htl) ?_ hh
      simp [spCells]
    | false =>
      have htl : (⟨buf, start, 1, false, ekey, err, out, true, prec, begun, stale⟩ : Sp).tag key.data.toList value.data.toList = some (⟨buf ++ ([44] ++ spEsc 1 key.data.toList ++ [61] ++ spEsc 2 value.data.toList), start, 1, false, ekey, err, out, true, prec, begun, stale⟩ : Sp) := by
        unfold Sp.tag
        rw [if_neg (by simp), if_neg (by simp)]
        rfl
      refine Calls.mono (spt_l_false (key := key) (value := value) (s := s) (k := k) (vn := vn) (u := u) (f := f) (x := x) (n := n) (m := m) (z := z) (hop := hop) (hB := hB) (hX1 := hX1) (hE1 := hE1) (hX2 := hX2) (hE2 := hE2) (h := h)) fun e w' hh => res_ok (hput.trans htl) ?_ hh
      simp [spCells]

  | false =>
    cases hkk : keyOk key.data.toList with
    | false =>
      have hfl : (⟨buf, start, 1, bad, ekey, err, out, false, prec, begun, stale⟩ : Sp).tag key.data.toList value.data.toList = (⟨buf, start, 1, bad, ekey, err, out, false, prec, begun, stale⟩ : Sp).fails false := by
        unfold Sp.tag
        rw [if_neg (by simp), if_pos ⟨rfl, .inl hkk⟩]
      cases stale with
      | true => exact Calls.mono (spt_k_stale (key := key) (value := value) (s := s) (k := k) (vn := vn) (u := u) (f := f) (x := x) (n := n) (m := m) (z := z) (hop := hop) (hK := fun w => key_true hk hkk w) (h := h)) fun e w' hh => res_stale (hput.trans hfl) rfl hh
      | false => exact Calls.mono (spt_k_live (key := key) (value := value) (s := s) (k := k) (vn := vn) (u := u) (f := f) (x := x) (n := n) (m := m) (z := z) (hop := hop) (hK := fun w => key_true hk hkk w) (hs := hs rfl) (h := h)) fun e w' hh => res_fail (hput.trans hfl) rfl rfl hh

    | true =>
      cases hvv : keyOk value.data.toList with
      | false =>
        have hfl : (⟨buf, start, 1, bad, ekey, err, out, false, prec, begun, stale⟩ : Sp).tag key.data.toList value.data.toList = (⟨buf, start, 1, bad, ekey, err, out, false, prec, begun, stale⟩ : Sp).fails false := by
          unfold Sp.tag
          rw [if_neg (by simp), if_pos ⟨rfl, .inr (.inl hvv)⟩]
        cases stale with
        | true => exact Calls.mono (spt_v_stale (key := key) (value := value) (s := s) (k := k) (vn := vn) (u := u) (f := f) (x := x) (n := n) (m := m) (z := z) (hop := hop) (hK := fun w => key_true hk hkk w) (hV := fun w => key_true hv hvv w) (h := h)) fun e w' hh => res_stale (hput.trans hfl) rfl hh
        | false => exact Calls.mono (spt_v_live (key := key) (value := value) (s := s) (k := k) (vn := vn) (u := u) (f := f) (x := x) (n := n) (m := m) (z := z) (hop := hop) (hK := fun w => key_true hk hkk w) (hV := fun w => key_true hv hvv w) (hs := hs rfl) (h := h)) fun e w' hh => res_fail (hput.trans hfl) rfl rfl hh

      | true =>
        have hle : keyLe key.data.toList ekey = (Op.bytesLess key.toList ekey || key.toList == ekey) := by rw [ByteArray.toList_eq]; rfl
        cases hl1 : Op.bytesLess key.toList ekey with
        | true =>
          have hfl : (⟨buf, start, 1, bad, ekey, err, out, false, prec, begun, stale⟩ : Sp).tag key.data.toList value.data.toList = (⟨buf, start, 1, bad, ekey, err, out, false, prec, begun, stale⟩ : Sp).fails false := by
            unfold Sp.tag
            rw [if_neg (by simp), if_pos ⟨rfl, .inr (.inr (by show keyLe _ ekey = true; rw [hle, hl1]; rfl))⟩]
          cases stale with
          | true => exact Calls.mono (spt_l_stale (key := key) (value := value) (s := s) (k := k) (vn := vn) (u := u) (f := f) (x := x) (n := n) (m := m) (z := z) (hop := hop) (hK := fun w => key_true hk hkk w) (hV := fun w => key_true hv hvv w) (hl1 := hl1) (h := h)) fun e w' hh => res_stale (hput.trans hfl) rfl hh
          | false => exact Calls.mono (spt_l_live (key := key) (value := value) (s := s) (k := k) (vn := vn) (u := u) (f := f) (x := x) (n := n) (m := m) (z := z) (hop := hop) (hK := fun w => key_true hk hkk w) (hV := fun w => key_true hv hvv w) (hl1 := hl1) (hs := hs rfl) (h := h)) fun e w' hh => res_fail (hput.trans hfl) rfl rfl hh

        | false =>
          cases hl2 : (key.toList == ekey) with
          | true =>
            have hfl : (⟨buf, start, 1, bad, ekey, err, out, false, prec, begun, stale⟩ : Sp).tag key.data.toList value.data.toList = (⟨buf, start, 1, bad, ekey, err, out, false, prec, begun, stale⟩ : Sp).fails false := by
              unfold Sp.tag
              rw [if_neg (by simp), if_pos ⟨rfl, .inr (.inr (by show keyLe _ ekey = true; rw [hle, hl1, hl2]; rfl))⟩]
            cases stale with
            | true => exact Calls.mono (spt_m_stale (key := key) (value := value) (s := s) (k := k) (vn := vn) (u := u) (f := f) (x := x) (n := n) (m := m) (z := z) (hop := hop) (hK := fun w => key_true hk hkk w) (hV := fun w => key_true hv hvv w) (hl1 := hl1) (hl2 := hl2) (h := h)) fun e w' hh => res_stale (hput.trans hfl) rfl hh
            | false => exact Calls.mono (spt_m_live (key := key) (value := value) (s := s) (k := k) (vn := vn) (u := u) (f := f) (x := x) (n := n) (m := m) (z := z) (hop := hop) (hK := fun w => key_true hk hkk w) (hV := fun w => key_true hv hvv w) (hl1 := hl1) (hl2 := hl2) (hs := hs rfl) (h := h)) fun e w' hh => res_fail (hput.trans hfl) rfl rfl hh

          | false =>
            cases bad with
            | true =>
              have htl : (⟨buf, start, 1, true, ekey, err, out, false, prec, begun, stale⟩ : Sp).tag key.data.toList value.data.toList = some (⟨buf, start, 1, true, key.data.toList, err, out, false, prec, begun, stale⟩ : Sp) := by
                unfold Sp.tag
                rw [if_neg (by simp), if_neg (fun hh => by rcases hh with ⟨_, h | h | h⟩ <;> first | (rw [hkk] at h; cases h) | (rw [hvv] at h; cases h) | (have h2 : keyLe key.data.toList ekey = true := h; rw [hle, hl1, hl2] at h2; cases h2))]
                rfl
              refine Calls.mono (spt_s_true (key := key) (value := value) (s := s) (k := k) (vn := vn) (u := u) (f := f) (x := x) (n := n) (m := m) (z := z) (hop := hop) (hK := fun w => key_true hk hkk w) (hV := fun w => key_true hv hvv w) (hl1 := hl1) (hl2 := hl2) (h := h)) fun e w' hh => res_ok (hput.trans htl) ?_ hh
              simp [spCells]
            | false =>
              have htl : (⟨buf, start, 1, false, ekey, err, out, false, prec, begun, stale⟩ : Sp).tag key.data.toList value.data.toList = some (⟨buf ++ ([44] ++ spEsc 1 key.data.toList ++ [61] ++ spEsc 2 value.data.toList), start, 1, false, key.data.toList, err, out, false, prec, begun, stale⟩ : Sp) := by
                unfold Sp.tag
                rw [if_neg (by simp), if_neg (fun hh => by rcases hh with ⟨_, h | h | h⟩ <;> first | (rw [hkk] at h; cases h) | (rw [hvv] at h; cases h) | (have h2 : keyLe key.data.toList ekey = true := h; rw [hle, hl1, hl2] at h2; cases h2))]
                rfl
              refine Calls.mono (spt_s_false (key := key) (value := value) (s := s) (k := k) (vn := vn) (u := u) (f := f) (x := x) (n := n) (m := m) (z := z) (hop := hop) (hB := hB) (hK := fun w => key_true hk hkk w) (hV := fun w => key_true hv hvv w) (hl1 := hl1) (hl2 := hl2) (hX1 := hX1) (hE1 := hE1) (hX2 := hX2) (hE2 := hE2) (h := h)) fun e w' hh => res_ok (hput.trans htl) ?_ hh
              simp [spCells]

set_option maxHeartbeats 4000000 in
theorem sput_field (E : Sp) (p : PutD) (hop : p.op = 2 ∨ p.op = 11) (hp : PutBd p) (hcan : p.v.can = true) (b : Nat) (w : World) {B0 : Nat} {ea : Addr} (hG : ∀ wx, Fr [b] w wx → Gv B0 ea wx) (hB : E.buf.length ≤ 100000000) (hs : E.stale = false → E.start ≤ E.buf.length) (h : SR w b (spCells E)) :
    Calls Tryz.prog 52 #[.pointer (some ⟨b, 0, none⟩), .agg p.cells] w (PutRes E p b w) := by
  have hk := hp.key
  have hv := hp.value
  obtain ⟨buf, start, part, bad, ekey, err, out, lax, prec, begun, stale⟩ := E
  obtain ⟨op, key, value, ⟨k, s, vn, u, f, x⟩, n, m, z⟩ := p
  simp only at hop hk hv hB hs hcan
  have hput : (⟨buf, start, part, bad, ekey, err, out, lax, prec, begun, stale⟩ : Sp).put ⟨op, key, value, ⟨k, s, vn, u, f, x⟩, n, m, z⟩ = (⟨buf, start, part, bad, ekey, err, out, lax, prec, begun, stale⟩ : Sp).field key.data.toList ⟨k, s, vn, u, f, x⟩ := by
    unfold Sp.put
    rw [if_neg (by rcases hop with rfl | rfl <;> simp), if_neg (by rcases hop with rfl | rfl <;> simp), if_pos hop]
  have hok := hp.ok
  have hX1 : (spEsc 3 key.data.toList).length ≤ 4000000 := Nat.le_trans (esc_len1 3 hk) (by decide)
  have hX2 : (VD.text ⟨k, s, vn, u, f, x⟩).length ≤ 4000000 := Nat.le_trans (text_len _ hok) (by decide)
  have hE1 := fun w => esc_said 3 (by decide) hk w
  have hff : (⟨k, s, vn, u, f, x⟩ : VD).kind = 4 → finOk (⟨k, s, vn, u, f, x⟩ : VD).f := fun h4 => by
    refine ⟨hp.f, ?_⟩
    have h4 : k = 4 := h4
    subst h4
    simpa [VD.can] using hcan
  have hE2 := fun wx (hf : Fr [b] w wx) => specText_any ⟨k, s, vn, u, f, x⟩ hok hff wx (hG wx hf)
  simp only [VD.cells] at hE2
  clear hp hok
  by_cases h12 : part = 1 ∨ part = 2
  case neg =>
    have q1 : ((part : Int) != 1) = true := by rw [bne_iff_ne]; omega
    have q2 : ((part : Int) != 2) = true := by rw [bne_iff_ne]; omega
    have hfl : (⟨buf, start, part, bad, ekey, err, out, lax, prec, begun, stale⟩ : Sp).field key.data.toList ⟨k, s, vn, u, f, x⟩ = (⟨buf, start, part, bad, ekey, err, out, lax, prec, begun, stale⟩ : Sp).fails false := by
      unfold Sp.field
      rw [if_pos (show part ≠ 1 ∧ part ≠ 2 by omega)]
    cases stale with
    | true => exact Calls.mono (spf_part_stale (key := key) (value := value) (s := s) (k := k) (vn := vn) (u := u) (f := f) (x := x) (n := n) (m := m) (z := z) (hop := hop) (p1 := q1) (p2 := q2) (h := h)) fun e w' hh => res_stale (hput.trans hfl) rfl hh
    | false => exact Calls.mono (spf_part_live (key := key) (value := value) (s := s) (k := k) (vn := vn) (u := u) (f := f) (x := x) (n := n) (m := m) (z := z) (hop := hop) (p1 := q1) (p2 := q2) (hs := hs rfl) (h := h)) fun e w' hh => res_fail (hput.trans hfl) rfl rfl hh

  rcases h12 with rfl | rfl
  · skip
    cases lax with
    | true =>
      cases bad with
      | true =>
        have htl : (⟨buf, start, 1, true, ekey, err, out, true, prec, begun, stale⟩ : Sp).field key.data.toList ⟨k, s, vn, u, f, x⟩ = some (⟨buf, start, 2, true, ekey, err, out, true, prec, begun, stale⟩ : Sp) := by
          unfold Sp.field
          rw [if_neg (by simp), if_neg (by simp), if_pos rfl]
        exact Calls.mono (spf_1_l_true (key := key) (value := value) (s := s) (k := k) (vn := vn) (u := u) (f := f) (x := x) (n := n) (m := m) (z := z) (hop := hop) (h := h)) fun e w' hh => res_ok (hput.trans htl) rfl hh
      | false =>
        have htl : (⟨buf, start, 1, false, ekey, err, out, true, prec, begun, stale⟩ : Sp).field key.data.toList ⟨k, s, vn, u, f, x⟩ = some (⟨buf ++ ([32] ++ spEsc 3 key.data.toList ++ [61] ++ VD.text ⟨k, s, vn, u, f, x⟩), start, 2, false, ekey, err, out, true, prec, begun, stale⟩ : Sp) := by
          unfold Sp.field
          rw [if_neg (by simp), if_neg (by simp), if_neg (by simp)]
          rfl
        refine Calls.mono (spf_1_l_false (key := key) (value := value) (s := s) (k := k) (vn := vn) (u := u) (f := f) (x := x) (n := n) (m := m) (z := z) (hop := hop) (hB := hB) (hX1 := hX1) (hE1 := hE1) (hX2 := hX2) (hE2 := hE2) (h := h)) fun e w' hh => res_ok (hput.trans htl) ?_ hh
        simp [spCells]

    | false =>
      cases hkk : keyOk key.data.toList with
      | false =>
        have hfl : (⟨buf, start, 1, bad, ekey, err, out, false, prec, begun, stale⟩ : Sp).field key.data.toList ⟨k, s, vn, u, f, x⟩ = (⟨buf, start, 2, bad, ekey, err, out, false, prec, begun, stale⟩ : Sp).fails false := by
          unfold Sp.field
          rw [if_neg (by simp), if_pos ⟨rfl, hkk⟩]
        cases stale with
        | true => exact Calls.mono (spf_1_key_stale (key := key) (value := value) (s := s) (k := k) (vn := vn) (u := u) (f := f) (x := x) (n := n) (m := m) (z := z) (hop := hop) (hK := fun w => key_true hk hkk w) (h := h)) fun e w' hh => res_stale (hput.trans hfl) rfl hh
        | false => exact Calls.mono (spf_1_key_live (key := key) (value := value) (s := s) (k := k) (vn := vn) (u := u) (f := f) (x := x) (n := n) (m := m) (z := z) (hop := hop) (hK := fun w => key_true hk hkk w) (hs := hs rfl) (h := h)) fun e w' hh => res_fail (hput.trans hfl) rfl rfl hh

      | true =>
        cases bad with
        | true =>
          have htl : (⟨buf, start, 1, true, ekey, err, out, false, prec, begun, stale⟩ : Sp).field key.data.toList ⟨k, s, vn, u, f, x⟩ = some (⟨buf, start, 2, true, ekey, err, out, false, prec, begun, stale⟩ : Sp) := by
            unfold Sp.field
            rw [if_neg (by simp), if_neg (by simp [hkk]), if_pos rfl]
          exact Calls.mono (spf_1_s_true (key := key) (value := value) (s := s) (k := k) (vn := vn) (u := u) (f := f) (x := x) (n := n) (m := m) (z := z) (hop := hop) (hK := fun w => key_true hk hkk w) (h := h)) fun e w' hh => res_ok (hput.trans htl) rfl hh
        | false =>
          have htl : (⟨buf, start, 1, false, ekey, err, out, false, prec, begun, stale⟩ : Sp).field key.data.toList ⟨k, s, vn, u, f, x⟩ = some (⟨buf ++ ([32] ++ spEsc 3 key.data.toList ++ [61] ++ VD.text ⟨k, s, vn, u, f, x⟩), start, 2, false, ekey, err, out, false, prec, begun, stale⟩ : Sp) := by
            unfold Sp.field
            rw [if_neg (by simp), if_neg (by simp [hkk]), if_neg (by simp)]
            rfl
          refine Calls.mono (spf_1_s_false (key := key) (value := value) (s := s) (k := k) (vn := vn) (u := u) (f := f) (x := x) (n := n) (m := m) (z := z) (hop := hop) (hB := hB) (hK := fun w => key_true hk hkk w) (hX1 := hX1) (hE1 := hE1) (hX2 := hX2) (hE2 := hE2) (h := h)) fun e w' hh => res_ok (hput.trans htl) ?_ hh
          simp [spCells]


  · skip
    cases lax with
    | true =>
      cases bad with
      | true =>
        have htl : (⟨buf, start, 2, true, ekey, err, out, true, prec, begun, stale⟩ : Sp).field key.data.toList ⟨k, s, vn, u, f, x⟩ = some (⟨buf, start, 2, true, ekey, err, out, true, prec, begun, stale⟩ : Sp) := by
          unfold Sp.field
          rw [if_neg (by simp), if_neg (by simp), if_pos rfl]
        exact Calls.mono (spf_2_l_true (key := key) (value := value) (s := s) (k := k) (vn := vn) (u := u) (f := f) (x := x) (n := n) (m := m) (z := z) (hop := hop) (h := h)) fun e w' hh => res_ok (hput.trans htl) rfl hh
      | false =>
        have htl : (⟨buf, start, 2, false, ekey, err, out, true, prec, begun, stale⟩ : Sp).field key.data.toList ⟨k, s, vn, u, f, x⟩ = some (⟨buf ++ ([44] ++ spEsc 3 key.data.toList ++ [61] ++ VD.text ⟨k, s, vn, u, f, x⟩), start, 2, false, ekey, err, out, true, prec, begun, stale⟩ : Sp) := by
          unfold Sp.field
          rw [if_neg (by simp), if_neg (by simp), if_neg (by simp)]
          rfl
        refine Calls.mono (spf_2_l_false (key := key) (value := value) (s := s) (k := k) (vn := vn) (u := u) (f := f) (x := x) (n := n) (m := m) (z := z) (hop := hop) (hB := hB) (hX1 := hX1) (hE1 := hE1) (hX2 := hX2) (hE2 := hE2) (h := h)) fun e w' hh => res_ok (hput.trans htl) ?_ hh
        simp [spCells]

    | false =>
      cases hkk : keyOk key.data.toList with
      | false =>
        have hfl : (⟨buf, start, 2, bad, ekey, err, out, false, prec, begun, stale⟩ : Sp).field key.data.toList ⟨k, s, vn, u, f, x⟩ = (⟨buf, start, 2, bad, ekey, err, out, false, prec, begun, stale⟩ : Sp).fails false := by
          unfold Sp.field
          rw [if_neg (by simp), if_pos ⟨rfl, hkk⟩]
        cases stale with
        | true => exact Calls.mono (spf_2_key_stale (key := key) (value := value) (s := s) (k := k) (vn := vn) (u := u) (f := f) (x := x) (n := n) (m := m) (z := z) (hop := hop) (hK := fun w => key_true hk hkk w) (h := h)) fun e w' hh => res_stale (hput.trans hfl) rfl hh
        | false => exact Calls.mono (spf_2_key_live (key := key) (value := value) (s := s) (k := k) (vn := vn) (u := u) (f := f) (x := x) (n := n) (m := m) (z := z) (hop := hop) (hK := fun w => key_true hk hkk w) (hs := hs rfl) (h := h)) fun e w' hh => res_fail (hput.trans hfl) rfl rfl hh

      | true =>
        cases bad with
        | true =>
          have htl : (⟨buf, start, 2, true, ekey, err, out, false, prec, begun, stale⟩ : Sp).field key.data.toList ⟨k, s, vn, u, f, x⟩ = some (⟨buf, start, 2, true, ekey, err, out, false, prec, begun, stale⟩ : Sp) := by
            unfold Sp.field
            rw [if_neg (by simp), if_neg (by simp [hkk]), if_pos rfl]
          exact Calls.mono (spf_2_s_true (key := key) (value := value) (s := s) (k := k) (vn := vn) (u := u) (f := f) (x := x) (n := n) (m := m) (z := z) (hop := hop) (hK := fun w => key_true hk hkk w) (h := h)) fun e w' hh => res_ok (hput.trans htl) rfl hh
        | false =>
          have htl : (⟨buf, start, 2, false, ekey, err, out, false, prec, begun, stale⟩ : Sp).field key.data.toList ⟨k, s, vn, u, f, x⟩ = some (⟨buf ++ ([44] ++ spEsc 3 key.data.toList ++ [61] ++ VD.text ⟨k, s, vn, u, f, x⟩), start, 2, false, ekey, err, out, false, prec, begun, stale⟩ : Sp) := by
            unfold Sp.field
            rw [if_neg (by simp), if_neg (by simp [hkk]), if_neg (by simp)]
            rfl
          refine Calls.mono (spf_2_s_false (key := key) (value := value) (s := s) (k := k) (vn := vn) (u := u) (f := f) (x := x) (n := n) (m := m) (z := z) (hop := hop) (hB := hB) (hK := fun w => key_true hk hkk w) (hX1 := hX1) (hE1 := hE1) (hX2 := hX2) (hE2 := hE2) (h := h)) fun e w' hh => res_ok (hput.trans htl) ?_ hh
          simp [spCells]


set_option maxHeartbeats 4000000 in
theorem sput_end (E : Sp) (p : PutD) (hop : p.op = 3) (hp : PutBd p) (hpr : 0 < E.prec) (b : Nat) (w : World) {B0 : Nat} {ea : Addr} (hG : ∀ wx, Fr [b] w wx → Gv B0 ea wx) (hB : E.buf.length ≤ 100000000) (hs : E.stale = false → E.start ≤ E.buf.length) (h : SR w b (spCells E)) :
    Calls Tryz.prog 52 #[.pointer (some ⟨b, 0, none⟩), .agg p.cells] w (PutRes E p b w) := by
  have hk := hp.key
  have hv := hp.value
  obtain ⟨buf, start, part, bad, ekey, err, out, lax, prec, begun, stale⟩ := E
  obtain ⟨op, key, value, ⟨k, s, vn, u, f, x⟩, n, m, z⟩ := p
  simp only at hop hk hv hB hs hpr
  subst hop
  have hput : (⟨buf, start, part, bad, ekey, err, out, lax, prec, begun, stale⟩ : Sp).put ⟨3, key, value, ⟨k, s, vn, u, f, x⟩, n, m, z⟩ = (⟨buf, start, part, bad, ekey, err, out, lax, prec, begun, stale⟩ : Sp).endl (if z then none else some (n + m)) := by
    unfold Sp.put
    rw [if_neg (by simp), if_neg (by simp), if_neg (by simp), if_pos (by simp)]
  have n0' := hp.p0
  have n1' := hp.p1
  have m0' := hp.m0
  have m1' := hp.m1
  simp only at n0' n1' m0' m1' hpr
  clear hp
  by_cases h2 : part = 2
  case neg =>
    have q2 : ¬ (part : Int) = 2 := by omega
    have hfl : (⟨buf, start, part, bad, ekey, err, out, lax, prec, begun, stale⟩ : Sp).endl (if z then none else some (n + m)) = (⟨buf, start, part, bad, ekey, err, out, lax, prec, begun, stale⟩ : Sp).fails false := by
      unfold Sp.endl
      rw [if_pos h2]
    cases stale with
    | true => exact Calls.mono (spe_part_stale (key := key) (value := value) (s := s) (k := k) (vn := vn) (u := u) (f := f) (x := x) (n := n) (m := m) (z := z) (p2 := q2) (h := h)) fun e w' hh => res_stale (hput.trans hfl) rfl hh
    | false => exact Calls.mono (spe_part_live (key := key) (value := value) (s := s) (k := k) (vn := vn) (u := u) (f := f) (x := x) (n := n) (m := m) (z := z) (p2 := q2) (hs := hs rfl) (h := h)) fun e w' hh => res_fail (hput.trans hfl) rfl rfl hh

  subst h2
  cases z with
  | true =>
    cases bad with
    | true =>
      have htl : (⟨buf, start, 2, true, ekey, err, out, lax, prec, begun, stale⟩ : Sp).endl none = some (⟨buf, start, 5, true, ekey, err, out, lax, prec, begun, stale⟩ : Sp) := by
        unfold Sp.endl
        rw [if_neg (by simp)]
        rfl
      exact Calls.mono (spe_none_true (key := key) (value := value) (s := s) (k := k) (vn := vn) (u := u) (f := f) (x := x) (n := n) (m := m) (h := h)) fun e w' hh => res_ok (hput.trans htl) rfl hh
    | false =>
      have htl : (⟨buf, start, 2, false, ekey, err, out, lax, prec, begun, stale⟩ : Sp).endl none = some (⟨buf ++ [10], start, 5, false, ekey, err, out, lax, prec, begun, stale⟩ : Sp) := by
        unfold Sp.endl
        rw [if_neg (by simp)]
        rfl
      exact Calls.mono (spe_none_false (key := key) (value := value) (s := s) (k := k) (vn := vn) (u := u) (f := f) (x := x) (n := n) (m := m) (hB := hB) (h := h)) fun e w' hh => res_ok (hput.trans htl) rfl hh
  | false =>
    have hput : _ = (⟨buf, start, 2, bad, ekey, err, out, lax, prec, begun, stale⟩ : Sp).endl (some (n + m)) := hput
    by_cases hr : n + m < -9223372036854775808 ∨ n + m > 9223372036854775807
    · by_cases n0 : n < 0
      · have m0 : m < 0 := by omega
        have hw : ¬ wrap64 (n + m) < 0 := by unfold wrap64; omega
        have hfl : (⟨buf, start, 2, bad, ekey, err, out, lax, prec, begun, stale⟩ : Sp).endl (some (n + m)) = (⟨buf, start, 5, bad, ekey, err, out, lax, prec, begun, stale⟩ : Sp).fails true := by
          unfold Sp.endl
          rw [if_neg (by simp)]; simp only; rw [if_pos hr]
        cases stale with
        | true => exact Calls.mono (spe_out_n_stale (key := key) (value := value) (s := s) (k := k) (vn := vn) (u := u) (f := f) (x := x) (n := n) (m := m) (n0 := n0) (m0 := m0) (hw := hw) (h := h)) fun e w' hh => res_stale (hput.trans hfl) rfl hh
        | false => exact Calls.mono (spe_out_n_live (key := key) (value := value) (s := s) (k := k) (vn := vn) (u := u) (f := f) (x := x) (n := n) (m := m) (n0 := n0) (m0 := m0) (hw := hw) (hs := hs rfl) (h := h)) fun e w' hh => res_fail (hput.trans hfl) rfl rfl hh

      · have m0 : ¬ m < 0 := by omega
        have hw : wrap64 (n + m) < 0 := by unfold wrap64; omega
        have hfl : (⟨buf, start, 2, bad, ekey, err, out, lax, prec, begun, stale⟩ : Sp).endl (some (n + m)) = (⟨buf, start, 5, bad, ekey, err, out, lax, prec, begun, stale⟩ : Sp).fails true := by
          unfold Sp.endl
          rw [if_neg (by simp)]; simp only; rw [if_pos hr]
        cases stale with
        | true => exact Calls.mono (spe_out_p_stale (key := key) (value := value) (s := s) (k := k) (vn := vn) (u := u) (f := f) (x := x) (n := n) (m := m) (n0 := n0) (m0 := m0) (hw := hw) (h := h)) fun e w' hh => res_stale (hput.trans hfl) rfl hh
        | false => exact Calls.mono (spe_out_p_live (key := key) (value := value) (s := s) (k := k) (vn := vn) (u := u) (f := f) (x := x) (n := n) (m := m) (n0 := n0) (m0 := m0) (hw := hw) (hs := hs rfl) (h := h)) fun e w' hh => res_fail (hput.trans hfl) rfl rfl hh

    · have hw : wrap64 (n + m) = n + m := by unfold wrap64; omega
      have ht := tdiv_in (n + m) prec (by omega) (by omega) hpr
      have hX : (Lib.itoa ((n + m).tdiv prec)).length ≤ 4000000 := Nat.le_trans (Lib.itoa_length_le _ ht.1 ht.2) (by decide)
      have hwt : IntKind.i64.wrap ((n + m).tdiv prec) = (n + m).tdiv prec := by
        simp [IntKind.wrap, IntKind.bits, IntKind.signed]; omega
      have hE : ∀ wx, Fr [b] w wx → Calls Tryz.prog 32 #[.int .i64 (IntKind.i64.wrap ((n + m).tdiv prec)), .int .i64 10] wx fun e w' => e = .returned (.string ⟨(Lib.itoa ((n + m).tdiv prec)).toArray⟩) ∧ Fr [] wx w' := fun wx hf => by
        rw [hwt]
        refine (Tryz.strconv_FormatInt_10 _ ht.1 ht.2 wx (hG wx hf).pow).mono ?_
        rintro e w' ⟨rfl, q, os, rfl⟩
        exact ⟨rfl, fr_grow _ _ _⟩
      have hp0 : ¬ prec = 0 := by omega
      by_cases n0 : n < 0
      · by_cases m0 : m < 0
        · have h2 : n + m < 0 := by omega
          cases bad with
          | true =>
            have htl : (⟨buf, start, 2, true, ekey, err, out, lax, prec, begun, stale⟩ : Sp).endl (some (n + m)) = some (⟨buf, start, 5, true, ekey, err, out, lax, prec, begun, stale⟩ : Sp) := by
              unfold Sp.endl
              rw [if_neg (by simp)]
              simp only
              rw [if_neg hr]
              simp
            exact Calls.mono (spe_in_nn_true (key := key) (value := value) (s := s) (k := k) (vn := vn) (u := u) (f := f) (x := x) (n := n) (m := m) (n0 := n0) (m0 := m0) (hw := hw) (h2 := h2) (h := h)) fun e w' hh => res_ok (hput.trans htl) rfl hh
          | false =>
            have htl : (⟨buf, start, 2, false, ekey, err, out, lax, prec, begun, stale⟩ : Sp).endl (some (n + m)) = some (⟨buf ++ ([32] ++ Lib.itoa ((n + m).tdiv prec) ++ [10]), start, 5, false, ekey, err, out, lax, prec, begun, stale⟩ : Sp) := by
              unfold Sp.endl
              rw [if_neg (by simp)]
              simp only
              rw [if_neg hr]
              simp
            refine Calls.mono (spe_in_nn_false (key := key) (value := value) (s := s) (k := k) (vn := vn) (u := u) (f := f) (x := x) (n := n) (m := m) (hB := hB) (n0 := n0) (m0 := m0) (hw := hw) (h2 := h2) (hp0 := hp0) (hX := hX) (hE := hE) (h := h)) fun e w' hh => res_ok (hput.trans htl) ?_ hh
            simp [spCells]

        · skip
          cases bad with
          | true =>
            have htl : (⟨buf, start, 2, true, ekey, err, out, lax, prec, begun, stale⟩ : Sp).endl (some (n + m)) = some (⟨buf, start, 5, true, ekey, err, out, lax, prec, begun, stale⟩ : Sp) := by
              unfold Sp.endl
              rw [if_neg (by simp)]
              simp only
              rw [if_neg hr]
              simp
            exact Calls.mono (spe_in_np_true (key := key) (value := value) (s := s) (k := k) (vn := vn) (u := u) (f := f) (x := x) (n := n) (m := m) (n0 := n0) (m0 := m0) (hw := hw) (h := h)) fun e w' hh => res_ok (hput.trans htl) rfl hh
          | false =>
            have htl : (⟨buf, start, 2, false, ekey, err, out, lax, prec, begun, stale⟩ : Sp).endl (some (n + m)) = some (⟨buf ++ ([32] ++ Lib.itoa ((n + m).tdiv prec) ++ [10]), start, 5, false, ekey, err, out, lax, prec, begun, stale⟩ : Sp) := by
              unfold Sp.endl
              rw [if_neg (by simp)]
              simp only
              rw [if_neg hr]
              simp
            refine Calls.mono (spe_in_np_false (key := key) (value := value) (s := s) (k := k) (vn := vn) (u := u) (f := f) (x := x) (n := n) (m := m) (hB := hB) (n0 := n0) (m0 := m0) (hw := hw) (hp0 := hp0) (hX := hX) (hE := hE) (h := h)) fun e w' hh => res_ok (hput.trans htl) ?_ hh
            simp [spCells]

      · by_cases m0 : m < 0
        · skip
          cases bad with
          | true =>
            have htl : (⟨buf, start, 2, true, ekey, err, out, lax, prec, begun, stale⟩ : Sp).endl (some (n + m)) = some (⟨buf, start, 5, true, ekey, err, out, lax, prec, begun, stale⟩ : Sp) := by
              unfold Sp.endl
              rw [if_neg (by simp)]
              simp only
              rw [if_neg hr]
              simp
            exact Calls.mono (spe_in_pn_true (key := key) (value := value) (s := s) (k := k) (vn := vn) (u := u) (f := f) (x := x) (n := n) (m := m) (n0 := n0) (m0 := m0) (hw := hw) (h := h)) fun e w' hh => res_ok (hput.trans htl) rfl hh
          | false =>
            have htl : (⟨buf, start, 2, false, ekey, err, out, lax, prec, begun, stale⟩ : Sp).endl (some (n + m)) = some (⟨buf ++ ([32] ++ Lib.itoa ((n + m).tdiv prec) ++ [10]), start, 5, false, ekey, err, out, lax, prec, begun, stale⟩ : Sp) := by
              unfold Sp.endl
              rw [if_neg (by simp)]
              simp only
              rw [if_neg hr]
              simp
            refine Calls.mono (spe_in_pn_false (key := key) (value := value) (s := s) (k := k) (vn := vn) (u := u) (f := f) (x := x) (n := n) (m := m) (hB := hB) (n0 := n0) (m0 := m0) (hw := hw) (hp0 := hp0) (hX := hX) (hE := hE) (h := h)) fun e w' hh => res_ok (hput.trans htl) ?_ hh
            simp [spCells]

        · have h2 : ¬ n + m < 0 := by omega
          cases bad with
          | true =>
            have htl : (⟨buf, start, 2, true, ekey, err, out, lax, prec, begun, stale⟩ : Sp).endl (some (n + m)) = some (⟨buf, start, 5, true, ekey, err, out, lax, prec, begun, stale⟩ : Sp) := by
              unfold Sp.endl
              rw [if_neg (by simp)]
              simp only
              rw [if_neg hr]
              simp
            exact Calls.mono (spe_in_pp_true (key := key) (value := value) (s := s) (k := k) (vn := vn) (u := u) (f := f) (x := x) (n := n) (m := m) (n0 := n0) (m0 := m0) (hw := hw) (h2 := h2) (h := h)) fun e w' hh => res_ok (hput.trans htl) rfl hh
          | false =>
            have htl : (⟨buf, start, 2, false, ekey, err, out, lax, prec, begun, stale⟩ : Sp).endl (some (n + m)) = some (⟨buf ++ ([32] ++ Lib.itoa ((n + m).tdiv prec) ++ [10]), start, 5, false, ekey, err, out, lax, prec, begun, stale⟩ : Sp) := by
              unfold Sp.endl
              rw [if_neg (by simp)]
              simp only
              rw [if_neg hr]
              simp
            refine Calls.mono (spe_in_pp_false (key := key) (value := value) (s := s) (k := k) (vn := vn) (u := u) (f := f) (x := x) (n := n) (m := m) (hB := hB) (n0 := n0) (m0 := m0) (hw := hw) (h2 := h2) (hp0 := hp0) (hX := hX) (hE := hE) (h := h)) fun e w' hh => res_ok (hput.trans htl) ?_ hh
            simp [spCells]

set_option maxHeartbeats 4000000 in
theorem sput_op4 (E : Sp) (p : PutD) (hop : p.op = 4) (hp : PutBd p) (b : Nat) (w : World) (hB : E.buf.length ≤ 100000000) (hs : E.stale = false → E.start ≤ E.buf.length) (h : SR w b (spCells E)) :
    Calls Tryz.prog 52 #[.pointer (some ⟨b, 0, none⟩), .agg p.cells] w (PutRes E p b w) := by
  have hk := hp.key
  have hv := hp.value
  obtain ⟨buf, start, part, bad, ekey, err, out, lax, prec, begun, stale⟩ := E
  obtain ⟨op, key, value, ⟨k, s, vn, u, f, x⟩, n, m, z⟩ := p
  simp only at hop hk hv hB hs
  subst hop
  have hput : (⟨buf, start, part, bad, ekey, err, out, lax, prec, begun, stale⟩ : Sp).put ⟨4, key, value, ⟨k, s, vn, u, f, x⟩, n, m, z⟩ = some (⟨buf, start, part, bad, ekey, false, false, lax, prec, begun, stale⟩ : Sp) := by
    unfold Sp.put
    rw [if_neg (by simp), if_neg (by simp), if_neg (by simp), if_neg (by simp), if_pos (by simp)]
  clear hp hs hB hk hv
  refine Calls.mono (spo4 (key := key) (value := value) (s := s) (k := k) (vn := vn) (u := u) (f := f) (x := x) (n := n) (m := m) (z := z) (h := h)) fun e w' hh => res_ok hput ?_ hh
  simp [spCells]
set_option maxHeartbeats 4000000 in
theorem sput_op5 (E : Sp) (p : PutD) (hop : p.op = 5) (hp : PutBd p) (b : Nat) (w : World) (hB : E.buf.length ≤ 100000000) (hs : E.stale = false → E.start ≤ E.buf.length) (h : SR w b (spCells E)) :
    Calls Tryz.prog 52 #[.pointer (some ⟨b, 0, none⟩), .agg p.cells] w (PutRes E p b w) := by
  have hk := hp.key
  have hv := hp.value
  obtain ⟨buf, start, part, bad, ekey, err, out, lax, prec, begun, stale⟩ := E
  obtain ⟨op, key, value, ⟨k, s, vn, u, f, x⟩, n, m, z⟩ := p
  simp only at hop hk hv hB hs
  subst hop
  have hput : (⟨buf, start, part, bad, ekey, err, out, lax, prec, begun, stale⟩ : Sp).put ⟨5, key, value, ⟨k, s, vn, u, f, x⟩, n, m, z⟩ = some (⟨[], start, 0, bad, ekey, false, false, lax, prec, begun, begun⟩ : Sp) := by
    unfold Sp.put
    rw [if_neg (by simp), if_neg (by simp), if_neg (by simp), if_neg (by simp), if_neg (by simp), if_pos (by simp)]
  clear hp hs hB hk hv
  refine Calls.mono (spo5 (key := key) (value := value) (s := s) (k := k) (vn := vn) (u := u) (f := f) (x := x) (n := n) (m := m) (z := z) (h := h)) fun e w' hh => res_ok hput ?_ hh
  simp [spCells]
set_option maxHeartbeats 4000000 in
theorem sput_op7 (E : Sp) (p : PutD) (hop : p.op = 7) (hp : PutBd p) (b : Nat) (w : World) (hB : E.buf.length ≤ 100000000) (hs : E.stale = false → E.start ≤ E.buf.length) (h : SR w b (spCells E)) :
    Calls Tryz.prog 52 #[.pointer (some ⟨b, 0, none⟩), .agg p.cells] w (PutRes E p b w) := by
  have hk := hp.key
  have hv := hp.value
  obtain ⟨buf, start, part, bad, ekey, err, out, lax, prec, begun, stale⟩ := E
  obtain ⟨op, key, value, ⟨k, s, vn, u, f, x⟩, n, m, z⟩ := p
  simp only at hop hk hv hB hs
  subst hop
  have hput : (⟨buf, start, part, bad, ekey, err, out, lax, prec, begun, stale⟩ : Sp).put ⟨7, key, value, ⟨k, s, vn, u, f, x⟩, n, m, z⟩ = some (⟨buf, start, part, bad, ekey, err, out, z, prec, begun, stale⟩ : Sp) := by
    unfold Sp.put
    rw [if_neg (by simp), if_neg (by simp), if_neg (by simp), if_neg (by simp), if_neg (by simp), if_neg (by simp), if_neg (by simp), if_pos (by simp)]
  clear hp hs hB hk hv
  refine Calls.mono (spo7 (key := key) (value := value) (s := s) (k := k) (vn := vn) (u := u) (f := f) (x := x) (n := n) (m := m) (z := z) (h := h)) fun e w' hh => res_ok hput ?_ hh
  simp [spCells]
set_option maxHeartbeats 4000000 in
theorem sput_op8 (E : Sp) (p : PutD) (hop : p.op = 8) (hp : PutBd p) (b : Nat) (w : World) (hB : E.buf.length ≤ 100000000) (hs : E.stale = false → E.start ≤ E.buf.length) (h : SR w b (spCells E)) :
    Calls Tryz.prog 52 #[.pointer (some ⟨b, 0, none⟩), .agg p.cells] w (PutRes E p b w) := by
  have hk := hp.key
  have hv := hp.value
  obtain ⟨buf, start, part, bad, ekey, err, out, lax, prec, begun, stale⟩ := E
  obtain ⟨op, key, value, ⟨k, s, vn, u, f, x⟩, n, m, z⟩ := p
  simp only at hop hk hv hB hs
  subst hop
  have hput : (⟨buf, start, part, bad, ekey, err, out, lax, prec, begun, stale⟩ : Sp).put ⟨8, key, value, ⟨k, s, vn, u, f, x⟩, n, m, z⟩ = some (⟨key.data.toList, start, 0, bad, ekey, false, false, lax, prec, begun, begun⟩ : Sp) := by
    unfold Sp.put
    rw [if_neg (by simp), if_neg (by simp), if_neg (by simp), if_neg (by simp), if_neg (by simp), if_neg (by simp), if_neg (by simp), if_neg (by simp), if_pos (by simp)]
  clear hp hs hB hk hv
  refine Calls.mono (spo8 (key := key) (value := value) (s := s) (k := k) (vn := vn) (u := u) (f := f) (x := x) (n := n) (m := m) (z := z) (h := h)) fun e w' hh => res_ok hput ?_ hh
  simp [spCells]
set_option maxHeartbeats 4000000 in
theorem sput_op6 (E : Sp) (p : PutD) (hop : p.op = 6) (hp : PutBd p) (hn : 0 ≤ p.n ∧ p.n ≤ 3) (b : Nat) (w : World) (hB : E.buf.length ≤ 100000000) (hs : E.stale = false → E.start ≤ E.buf.length) (h : SR w b (spCells E)) :
    Calls Tryz.prog 52 #[.pointer (some ⟨b, 0, none⟩), .agg p.cells] w (PutRes E p b w) := by
  have hk := hp.key
  have hv := hp.value
  obtain ⟨buf, start, part, bad, ekey, err, out, lax, prec, begun, stale⟩ := E
  obtain ⟨op, key, value, ⟨k, s, vn, u, f, x⟩, n, m, z⟩ := p
  simp only at hop hk hv hB hs
  subst hop
  have hput : (⟨buf, start, part, bad, ekey, err, out, lax, prec, begun, stale⟩ : Sp).put ⟨6, key, value, ⟨k, s, vn, u, f, x⟩, n, m, z⟩ = some (⟨buf, start, part, bad, ekey, err, out, lax, ticks n.toNat, begun, stale⟩ : Sp) := by
    unfold Sp.put
    rw [if_neg (by simp), if_neg (by simp), if_neg (by simp), if_neg (by simp), if_neg (by simp), if_neg (by simp), if_pos (by simp)]
  simp only at hn
  refine Calls.mono (spo6 (key := key) (value := value) (s := s) (k := k) (vn := vn) (u := u) (f := f) (x := x) (n := n) (m := m) (z := z) (tk := ticks n.toNat) (hT := fun w => ticks_any n hn.1 hn.2 w) (h := h)) fun e w' hh => res_ok hput ?_ hh
  rfl
/-- spec.Put of whatever call. -/
theorem sput_any (E : Sp) (p : PutD) (hp : PutBd p) (hb : spBad p = false) (b : Nat) (w : World) {B0 : Nat} {ea : Addr} (hG : ∀ wx, Fr [b] w wx → Gv B0 ea wx) (hB : E.buf.length ≤ 100000000) (hpr : 0 < E.prec) (hs : E.stale = false → E.start ≤ E.buf.length) (h : SR w b (spCells E)) :
    Calls Tryz.prog 52 #[.pointer (some ⟨b, 0, none⟩), .agg p.cells] w (PutRes E p b w) := by
  have ho := hp.op
  unfold spBad at hb
  rw [Bool.or_eq_false_iff] at hb
  obtain ⟨hb1, hb2⟩ := hb
  have hcan : p.op = 2 ∨ p.op = 11 → p.v.can = true := fun h2 => by
    rw [decide_eq_true h2, Bool.true_and, Bool.not_eq_false'] at hb1
    exact hb1
  have hn : p.op = 6 → 0 ≤ p.n ∧ p.n ≤ 3 := fun h6 => by
    rw [decide_eq_true h6, Bool.true_and, decide_eq_false_iff_not] at hb2
    omega
  have hcases : p.op = 0 ∨ p.op = 1 ∨ p.op = 2 ∨ p.op = 3 ∨ p.op = 4 ∨ p.op = 5 ∨ p.op = 6 ∨ p.op = 7 ∨ p.op = 8 ∨ p.op = 9 ∨ p.op = 10 ∨ p.op = 11 := by omega
  rcases hcases with e | e | e | e | e | e | e | e | e | e | e | e
  · exact sput_line E p (.inl e) hp b w hB hs h
  · exact sput_tag E p (.inl e) hp b w hB hs h
  · exact sput_field E p (.inl e) hp (hcan (.inl e)) b w hG hB hs h
  · exact sput_end E p e hp hpr b w hG hB hs h
  · exact sput_op4 E p e hp b w hB hs h
  · exact sput_op5 E p e hp b w hB hs h
  · exact sput_op6 E p e hp (hn e) b w hB hs h
  · exact sput_op7 E p e hp b w hB hs h
  · exact sput_op8 E p e hp b w hB hs h
  · exact sput_line E p (.inr e) hp b w hB hs h
  · exact sput_tag E p (.inr e) hp b w hB hs h
  · exact sput_field E p (.inr e) hp (hcan (.inr e)) b w hG hB hs h
end Go.Proofs.YtaaogjhaokaggaaGreatDoor
