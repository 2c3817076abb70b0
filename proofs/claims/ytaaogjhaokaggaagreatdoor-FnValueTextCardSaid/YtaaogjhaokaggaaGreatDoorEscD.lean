import Derived.Test.YtaaogjhaokaggaaGreatDoorEsc
namespace Go.Proofs.YtaaogjhaokaggaaGreatDoor
open Go.RowKit

/-- The table of an escaper of some bytes. -/
def tOf (es : List UInt8) (c : UInt8) : UInt8 := if c ∈ es then xOf c else 0

theorem escCells_gen (c : UInt8) : ∀ (es : List UInt8) (a : Array Value), a.size = 513 →
    (es.foldl (fun a c => (a.setIfInBounds c.toNat (.int .u8 ((xOf c).toNat : Int))).setIfInBounds (256 + (xOf c).toNat) (.int .u8 (c.toNat : Int))) a)[c.toNat]? = if c ∈ es then some (.int .u8 ((xOf c).toNat : Int)) else a[c.toNat]?
  | [], a, _ => by simp
  | d :: es, a, ha => by
    have hc := c.toNat_lt
    have hd := d.toNat_lt
    rw [List.foldl_cons, escCells_gen c es _ (by simp [ha])]
    by_cases h : c ∈ es
    · rw [if_pos h, if_pos (by simp [h])]
    · rw [if_neg h, Array.getElem?_setIfInBounds, if_neg (by omega), Array.getElem?_setIfInBounds]
      by_cases e : d.toNat = c.toNat
      · have e' : d = c := UInt8.toNat_inj.1 e
        subst e'
        rw [if_pos rfl, if_pos (by omega), if_pos (by simp)]
      · have e' : c ≠ d := fun h => e (by rw [h])
        rw [if_neg e, if_neg (by simp [h, e'])]
theorem escCells_at (es : List UInt8) (c : UInt8) : (escCells es)[c.toNat]? = some (.int .u8 ((tOf es c).toNat : Int)) := by
  have hc := c.toNat_lt
  rw [escCells, escCells_gen c es ez (by simp [ez])]
  unfold tOf
  by_cases h : c ∈ es
  · rw [if_pos h, if_pos h]
  · rw [if_neg h, if_neg h, ez, Array.getElem?_push_lt (by simp; omega)]
    simp

theorem xOf_ne (c : UInt8) (h : c ≠ 0) : xOf c ≠ 0 := by
  unfold xOf
  split
  · decide
  split
  · decide
  split
  · decide
  · exact h

theorem count_nodup (es : List UInt8) (hn : es.Nodup) (c : UInt8) : (es.map (fun e => if c == e then 1 else 0)).sum = if c ∈ es then 1 else 0 := by
  induction es with
  | nil => simp
  | cons e es ih =>
    rw [List.nodup_cons] at hn
    simp only [List.map_cons, List.sum_cons, ih hn.2, List.mem_cons]
    by_cases h : c = e
    · subst h
      simp [hn.1]
    · simp [h]

theorem sumCnt_cons (es : List UInt8) (c : UInt8) (l : List UInt8) : sumCnt es (c :: l) = (es.map (fun e => if c == e then 1 else 0)).sum + sumCnt es l := by
  unfold sumCnt
  induction es with
  | nil => simp
  | cons e es ih =>
    simp only [List.map_cons, List.sum_cons, ih]
    have : cnt e (c :: l) = (if c == e then 1 else 0) + cnt e l := by
      unfold cnt
      by_cases h : c == e
      · simp [h]; omega
      · simp [h]
    omega

theorem esc_count (es : List UInt8) (hn : es.Nodup) (h0 : (0 : UInt8) ∉ es) (l : List UInt8) : l.length + sumCnt es l = (esc (tOf es) l).length := by
  induction l with
  | nil =>
    have : sumCnt es [] = 0 := by
      clear hn h0
      induction es with
      | nil => rfl
      | cons e es ih => simpa [sumCnt, cnt] using ih
    simp [this, esc]
  | cons c l ih =>
    rw [sumCnt_cons, count_nodup es hn, esc_cons, List.length_append, List.length_cons]
    have : (escB (tOf es) c).length = 1 + if c ∈ es then 1 else 0 := by
      unfold escB tOf
      by_cases h : c ∈ es
      · have : c ≠ 0 := fun e => h0 (e ▸ h)
        simp [h, xOf_ne c this]
      · simp [h]
    omega

/-- newEscaper, as what is asked of an escaper. -/
theorem newEscaper_at (s : ByteArray) (hs : s.size ≤ 10) (hq : ∀ c, c ∈ s.data.toList → (qOf c).isSome = true) (hn : s.data.toList.Nodup) (h0 : (0 : UInt8) ∉ s.data.toList) (w : World) :
    Calls Tryz.prog 108 #[.string s] w fun e w' => e = .returned (.pointer (some ⟨w.heap.size, 0, none⟩)) ∧ EscAt w' w.heap.size (tOf s.data.toList) ∧ Fr [] w w' := by
  refine (newEscaper_any s hq w).mono ?_
  rintro e w' ⟨h1, h2, h3⟩
  refine ⟨h1, ⟨fun c => ?_, ⟨s, ?_, hs, esc_count _ hn h0⟩⟩, h3⟩
  · have hc := c.toNat_lt
    rw [cell_of_row w' _ _ _ _ _ h2, Array.getElem?_setIfInBounds, if_neg (by omega), escCells_at]
  · rw [cell_of_row w' _ _ _ _ _ h2, Array.getElem?_setIfInBounds, if_pos rfl, if_pos (by rw [escCells_size]; omega)]

def sM : List UInt8 := [32, 44]
def sK : List UInt8 := [44, 61, 32]
def sV : List UInt8 := [44, 32, 61]
def sS : List UInt8 := [92, 34, 10, 13, 9]

/-- What a call that makes an escaper leaves. -/
def MadeEsc (es : List UInt8) (w : World) (e : Ending) (w' : World) : Prop := e = .returned (.pointer (some ⟨w.heap.size, 0, none⟩)) ∧ EscAt w' w.heap.size (tOf es) ∧ Fr [] w w'

theorem escM_any (w : World) : Calls Tryz.prog 116 #[] w (MadeEsc sM w) := by
  have h := newEscaper_at ⟨#[32, 44]⟩ (by decide) (by decide) (by decide) (by decide)
  go_enter Tryz.func116, Tryz.ntmps116
  go_wp2_with (go_at_call 108; refine (h _).mono ?_; rintro e w1 ⟨rfl, h1, h2⟩)
  go_ret
  exact ⟨rfl, h1, h2⟩
theorem escK_any (w : World) : Calls Tryz.prog 117 #[] w (MadeEsc sK w) := by
  have h := newEscaper_at ⟨#[44, 61, 32]⟩ (by decide) (by decide) (by decide) (by decide)
  go_enter Tryz.func117, Tryz.ntmps117
  go_wp2_with (go_at_call 108; refine (h _).mono ?_; rintro e w1 ⟨rfl, h1, h2⟩)
  go_ret
  exact ⟨rfl, h1, h2⟩
theorem escV_any (w : World) : Calls Tryz.prog 118 #[] w (MadeEsc sV w) := by
  have h := newEscaper_at ⟨#[44, 32, 61]⟩ (by decide) (by decide) (by decide) (by decide)
  go_enter Tryz.func118, Tryz.ntmps118
  go_wp2_with (go_at_call 108; refine (h _).mono ?_; rintro e w1 ⟨rfl, h1, h2⟩)
  go_ret
  exact ⟨rfl, h1, h2⟩
theorem escS_any (w : World) : Calls Tryz.prog 72 #[] w (MadeEsc sS w) := by
  have h := newEscaper_at ⟨#[92, 34, 10, 13, 9]⟩ (by decide) (by decide) (by decide) (by decide)
  go_enter Tryz.func72, Tryz.ntmps72
  go_wp2_with (go_at_call 108; refine (h _).mono ?_; rintro e w1 ⟨rfl, h1, h2⟩)
  go_ret
  exact ⟨rfl, h1, h2⟩
theorem escF_any (w : World) : Calls Tryz.prog 119 #[] w (MadeEsc sK w) := by
  go_enter Tryz.func119, Tryz.ntmps119
  go_wp2_with (go_at_call 117; refine (escK_any _).mono ?_; rintro e w1 ⟨rfl, h1, h2⟩)
  go_ret
  exact ⟨rfl, h1, h2⟩
end Go.Proofs.YtaaogjhaokaggaaGreatDoor
