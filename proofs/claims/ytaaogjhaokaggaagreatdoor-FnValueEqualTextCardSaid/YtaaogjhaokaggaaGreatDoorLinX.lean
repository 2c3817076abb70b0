import Derived.Test.YtaaogjhaokaggaaGreatDoorValB
namespace Go.Proofs.YtaaogjhaokaggaaGreatDoor
open Go.RowKit

/-- A line of the laws, as data. -/
structure LnD where
  name : ByteArray
  tags : List (ByteArray × ByteArray)
  fields : List (ByteArray × ByteArray)
  values : List VD
  n : Int
  non : Bool
  raw : Bool
/-- A slice of pairs of texts. -/
def PairsIn (w : World) (v : Value) (l : List (ByteArray × ByteArray)) : Prop := ∃ a c, v = .slice a l.length c ∧ (l = [] ∨ ∃ g off, a = some ⟨g, off, none⟩ ∧ ∀ i p, l[i]? = some p → w.cell? ⟨g, off + i * 2, none⟩ = some (.string p.1) ∧ w.cell? ⟨g, off + i * 2 + 1, none⟩ = some (.string p.2))
/-- A slice of values. -/
def ValsIn (w : World) (v : Value) (l : List VD) : Prop := ∃ a c, v = .slice a l.length c ∧ (l = [] ∨ ∃ g off, a = some ⟨g, off, none⟩ ∧ ∀ i d, l[i]? = some d → ∀ j u, d.cells[j]? = some u → w.cell? ⟨g, off + i * 6 + j, none⟩ = some u)
/-- The seven cells of a line. -/
def LineIn (w : World) (cs : Array Value) (e : LnD) : Prop := ∃ tv fv vv, cs = #[.string e.name, tv, fv, vv, .int .i64 e.n, .bool e.non, .bool e.raw] ∧ PairsIn w tv e.tags ∧ PairsIn w fv e.fields ∧ ValsIn w vv e.values
/-- A slice of lines. -/
def LinesIn (w : World) (v : Value) (l : List LnD) : Prop := ∃ a c, v = .slice a l.length c ∧ (l = [] ∨ ∃ g off, a = some ⟨g, off, none⟩ ∧ ∀ i e, l[i]? = some e → ∃ cs, LineIn w cs e ∧ ∀ j u, cs[j]? = some u → w.cell? ⟨g, off + i * 7 + j, none⟩ = some u)

theorem PairsIn.fr {w w' : World} {v : Value} {l : List (ByteArray × ByteArray)} (h : PairsIn w v l) (f : Fr [] w w') : PairsIn w' v l := by
  obtain ⟨a, c, rfl, h⟩ := h
  refine ⟨a, c, rfl, ?_⟩
  rcases h with h | ⟨g, off, rfl, h⟩
  · exact .inl h
  · exact .inr ⟨g, off, rfl, fun i p hp => ⟨f.cell (h i p hp).1 List.not_mem_nil, f.cell (h i p hp).2 List.not_mem_nil⟩⟩
theorem ValsIn.fr {w w' : World} {v : Value} {l : List VD} (h : ValsIn w v l) (f : Fr [] w w') : ValsIn w' v l := by
  obtain ⟨a, c, rfl, h⟩ := h
  refine ⟨a, c, rfl, ?_⟩
  rcases h with h | ⟨g, off, rfl, h⟩
  · exact .inl h
  · exact .inr ⟨g, off, rfl, fun i d hd j u hu => f.cell (h i d hd j u hu) List.not_mem_nil⟩
theorem LineIn.fr {w w' : World} {cs : Array Value} {e : LnD} (h : LineIn w cs e) (f : Fr [] w w') : LineIn w' cs e := by
  obtain ⟨tv, fv, vv, rfl, h1, h2, h3⟩ := h
  exact ⟨tv, fv, vv, rfl, h1.fr f, h2.fr f, h3.fr f⟩
theorem LinesIn.fr {w w' : World} {v : Value} {l : List LnD} (h : LinesIn w v l) (f : Fr [] w w') : LinesIn w' v l := by
  obtain ⟨a, c, rfl, h⟩ := h
  refine ⟨a, c, rfl, ?_⟩
  rcases h with h | ⟨g, off, rfl, h⟩
  · exact .inl h
  · exact .inr ⟨g, off, rfl, fun i e he => by obtain ⟨cs, h1, h2⟩ := h i e he; exact ⟨cs, h1.fr f, fun j u hu => f.cell (h2 j u hu) List.not_mem_nil⟩⟩

/-- laws.zzFits7 .. 4. -/
def big : Nat := 2147483647
def fitP (p : ByteArray × ByteArray) : Bool := decide (p.1.size ≤ 2147483647) && decide (p.2.size ≤ 2147483647)
def fitPs (l : List (ByteArray × ByteArray)) : Bool := decide (l.length ≤ 2147483647) && l.all fitP
def fitV (d : VD) : Bool := decide (d.s.size ≤ 2147483647)
def fitVs (l : List VD) : Bool := decide (l.length ≤ 2147483647) && l.all fitV
def fitL (e : LnD) : Bool := decide (e.name.size ≤ 2147483647) && (fitPs e.tags && (fitPs e.fields && fitVs e.values))
def fitLs (l : List LnD) : Bool := decide (l.length ≤ 2147483647) && l.all fitL
end Go.Proofs.YtaaogjhaokaggaaGreatDoor
namespace Go.Proofs.YtaaogjhaokaggaaGreatDoor
open Go.RowKit
set_option maxRecDepth 100000 in
theorem zzFits3_b (d : VD) (w : World) :
    Calls Tryz.prog 14 #[.agg d.cells] w fun e w' => e = .returned (.bool (decide (d.s.size ≤ 2147483647))) ∧ Fr [] w w' := by
  obtain ⟨k, s, n, u, f, x⟩ := d
  simp only [VD.cells]
  by_cases h : s.size ≤ 2147483647
  · have hi : (s.size : Int) ≤ 2147483647 := by omega
    rw [decide_eq_true h]
    go_enter Tryz.func14, Tryz.ntmps14
    go_wp2_with fail
    go_ret
    exact ⟨rfl, (Fr.refl _ _).alloc _⟩
  · have hi : (2147483647 : Int) < (s.size : Int) := by omega
    rw [decide_eq_false h]
    go_enter Tryz.func14, Tryz.ntmps14
    go_wp2_with fail
    go_ret
    exact ⟨rfl, (Fr.refl _ _).alloc _⟩
end Go.Proofs.YtaaogjhaokaggaaGreatDoor
namespace Go.Proofs.YtaaogjhaokaggaaGreatDoor
open Go.RowKit

set_option maxRecDepth 100000 in
theorem zzFits7_any (p : ByteArray × ByteArray) (w : World) :
    Calls Tryz.prog 113 #[.agg #[.string p.1, .string p.2]] w fun e w' => e = .returned (.bool (fitP p)) ∧ Fr [] w w' := by
  obtain ⟨a, b⟩ := p
  unfold fitP
  simp only
  by_cases h1 : a.size ≤ 2147483647
  · have h1i : (a.size : Int) ≤ 2147483647 := by omega
    by_cases h2 : b.size ≤ 2147483647
    · have h2i : (b.size : Int) ≤ 2147483647 := by omega
      rw [decide_eq_true h1, decide_eq_true h2]
      go_enter Tryz.func113, Tryz.ntmps113
      go_wp2_with fail
      go_ret
      exact ⟨rfl, (Fr.refl _ _).alloc _⟩
    · have h2i : (2147483647 : Int) < (b.size : Int) := by omega
      rw [decide_eq_true h1, decide_eq_false h2]
      go_enter Tryz.func113, Tryz.ntmps113
      go_wp2_with fail
      go_ret
      exact ⟨rfl, (Fr.refl _ _).alloc _⟩
  · have h1i : (2147483647 : Int) < (a.size : Int) := by omega
    rw [decide_eq_false h1, Bool.false_and]
    go_enter Tryz.func113, Tryz.ntmps113
    go_wp2_with fail
    go_ret
    exact ⟨rfl, (Fr.refl _ _).alloc _⟩

theorem all_take_succ {α : Type} (f : α → Bool) (l : List α) (k : Nat) (x : α) (h : l[k]? = some x) : (l.take (k + 1)).all f = ((l.take k).all f && f x) := by
  rw [List.take_add_one, h]
  simp
theorem all_stop {α : Type} (f : α → Bool) (l : List α) (k : Nat) (x : α) (h : l[k]? = some x) (hf : f x = false) : l.all f = false := by
  rw [List.all_eq_false]
  exact ⟨x, List.mem_of_getElem? h, by simp [hf]⟩

set_option maxRecDepth 100000 in
set_option maxHeartbeats 1000000 in
theorem zzFits6_any (l : List (ByteArray × ByteArray)) (v : Value) (w : World) (hl : l.length ≤ 9223372036854775807) (hP : PairsIn w v l) :
    Calls Tryz.prog 77 #[v] w fun e w' => e = .returned (.bool (fitPs l)) ∧ Fr [] w w' := by
  obtain ⟨a, c, rfl, h⟩ := hP
  unfold fitPs
  by_cases hn : l.length ≤ 2147483647
  case neg =>
    have hni : (2147483647 : Int) < (l.length : Int) := by omega
    rw [decide_eq_false hn, Bool.false_and]
    clear h
    go_enter Tryz.func77, Tryz.ntmps77
    go_wp2_with fail
    go_ret
    exact ⟨rfl, Fr.refl _ _⟩
  have hni : (l.length : Int) ≤ 2147483647 := by omega
  rw [decide_eq_true hn, Bool.true_and]
  have HH := Lib.hid h
  clear h
  obtain ⟨N, hN⟩ : ∃ N, N = l.length := ⟨_, rfl⟩
  rw [← hN] at hn hni hl ⊢
  obtain ⟨R, hR⟩ : ∃ R, R = l.all fitP := ⟨_, rfl⟩
  rw [← hR]
  have HR := Lib.hid hR
  have HN := Lib.hid hN
  clear hR hN
  go_enter Tryz.func77, Tryz.ntmps77
  go_wp2_with fail
  go_loopw [10] (fun i wr => ∃ k : Nat, k ≤ N ∧ i = .int .i64 k ∧ Hid ((l.take k).all fitP = true) ∧ Hid (Fr [] w wr)) (fun i _ => N - (intOf i).toNat)
  case atStart => exact ⟨0, Nat.zero_le _, rfl, Lib.hid (by simp), Lib.hid (Fr.refl _ _)⟩
  case round =>
    obtain ⟨k, hk, rfl, HA, HF⟩ := hrel
    by_cases hlt : k < N
    case neg =>
      go_wp2_with fail
      go_ret
      refine ⟨ret_bool ?_, HF.out⟩
      have := HA.out
      rw [List.take_of_length_le (by rw [← HN.out]; omega)] at this
      rw [HR.out, this]
    have hlk : k < l.length := by rw [← HN.out]; exact hlt
    obtain ⟨x, hx⟩ : ∃ x, l[k]? = some x := ⟨l[k], List.getElem?_eq_getElem hlk⟩
    have HX := Lib.hid hx
    have hg : ∃ g off, a = some ⟨g, off, none⟩ ∧ wr.cell? ⟨g, off + k * 2, none⟩ = some (.string x.1) ∧ wr.cell? ⟨g, off + k * 2 + 1, none⟩ = some (.string x.2) := by
      rcases HH.out with h | ⟨g, off, h1, h2⟩
      · subst h; simp at hlk
      · exact ⟨g, off, h1, HF.out.cell (h2 k x hx).1 List.not_mem_nil, HF.out.cell (h2 k x hx).2 List.not_mem_nil⟩
    obtain ⟨g, off, rfl, c0, c1⟩ := hg
    have hz := fun w => zzFits7_any x w
    cases hf : fitP x with
    | false =>
      rw [hf] at hz
      have HZ := Lib.hid hz
      have HFX := Lib.hid hf
      clear hz hf hx hlk
      go_wp2_with (go_at_call 113; refine (HZ.out _).mono ?_; rintro e w2 ⟨rfl, hf2⟩)
      go_ret
      refine ⟨ret_bool ?_, (HF.out.alloc _).trans hf2⟩
      rw [HR.out, all_stop _ _ _ _ HX.out HFX.out]
    | true =>
      rw [hf] at hz
      have HZ := Lib.hid hz
      have HFX := Lib.hid hf
      clear hz hf hx hlk
      go_wp2_with (go_at_call 113; refine (HZ.out _).mono ?_; rintro e w2 ⟨rfl, hf2⟩; have HF2 := Lib.hid ((HF.out.alloc _).trans hf2); clear hf2)
      go_roundw
      case rel => exact ⟨k + 1, by omega, by go_num, Lib.hid (by rw [all_take_succ _ _ _ _ HX.out, HA.out, HFX.out]; rfl), HF2⟩
      case measure => simp [intOf]; omega
end Go.Proofs.YtaaogjhaokaggaaGreatDoor
namespace Go.Proofs.YtaaogjhaokaggaaGreatDoor
open Go.RowKit

set_option maxRecDepth 100000 in
set_option maxHeartbeats 1000000 in
theorem zzFits8_any (l : List VD) (v : Value) (w : World) (hl : l.length ≤ 9223372036854775807) (hP : ValsIn w v l) :
    Calls Tryz.prog 78 #[v] w fun e w' => e = .returned (.bool (fitVs l)) ∧ Fr [] w w' := by
  obtain ⟨a, c, rfl, h⟩ := hP
  unfold fitVs
  by_cases hn : l.length ≤ 2147483647
  case neg =>
    have hni : (2147483647 : Int) < (l.length : Int) := by omega
    rw [decide_eq_false hn, Bool.false_and]
    clear h
    go_enter Tryz.func78, Tryz.ntmps78
    go_wp2_with fail
    go_ret
    exact ⟨rfl, Fr.refl _ _⟩
  have hni : (l.length : Int) ≤ 2147483647 := by omega
  rw [decide_eq_true hn, Bool.true_and]
  have HH := Lib.hid h
  clear h
  obtain ⟨N, hN⟩ : ∃ N, N = l.length := ⟨_, rfl⟩
  rw [← hN] at hn hni hl ⊢
  obtain ⟨R, hR⟩ : ∃ R, R = l.all fitV := ⟨_, rfl⟩
  rw [← hR]
  have HR := Lib.hid hR
  have HN := Lib.hid hN
  clear hR hN
  have hsf : ∀ (a : Addr) (k : FloatKind) (b : Nat) (m : Mode) (w : World), (store a (.float k b) m).run Tryz.prog w = stored Tryz.prog w a (.float k b) m := fun a k b m w => run_store Tryz.prog w a _ m rfl
  go_enter Tryz.func78, Tryz.ntmps78
  go_wp2_with fail
  go_loopw [10] (fun i wr => ∃ k : Nat, k ≤ N ∧ i = .int .i64 k ∧ Hid ((l.take k).all fitV = true) ∧ Hid (Fr [] w wr)) (fun i _ => N - (intOf i).toNat)
  case atStart => exact ⟨0, Nat.zero_le _, rfl, Lib.hid (by simp), Lib.hid (Fr.refl _ _)⟩
  case round =>
    obtain ⟨k, hk, rfl, HA, HF⟩ := hrel
    by_cases hlt : k < N
    case neg =>
      go_wp2_with fail
      go_ret
      refine ⟨ret_bool ?_, HF.out⟩
      have := HA.out
      rw [List.take_of_length_le (by rw [← HN.out]; omega)] at this
      rw [HR.out, this]
    have hlk : k < l.length := by rw [← HN.out]; exact hlt
    obtain ⟨x, hx⟩ : ∃ x, l[k]? = some x := ⟨l[k], List.getElem?_eq_getElem hlk⟩
    have HX := Lib.hid hx
    have hg : ∃ g off, a = some ⟨g, off, none⟩ ∧ ∀ j u, x.cells[j]? = some u → wr.cell? ⟨g, off + k * 6 + j, none⟩ = some u := by
      rcases HH.out with h | ⟨g, off, h1, h2⟩
      · subst h; simp at hlk
      · exact ⟨g, off, h1, fun j u hu => HF.out.cell (h2 k x hx j u hu) List.not_mem_nil⟩
    obtain ⟨g, off, rfl, hcell⟩ := hg
    obtain ⟨kd, sd, nd, ud, fd, bd⟩ := x
    have c0 : wr.cell? ⟨g, off + k * 6, none⟩ = some (.int .i64 kd) := hcell 0 _ rfl
    have c1 : wr.cell? ⟨g, off + k * 6 + 1, none⟩ = some (.string sd) := hcell 1 _ rfl
    have c2 : wr.cell? ⟨g, off + k * 6 + 2, none⟩ = some (.int .i64 nd) := hcell 2 _ rfl
    have c3 : wr.cell? ⟨g, off + k * 6 + 3, none⟩ = some (.int .u64 (ud : Int)) := hcell 3 _ rfl
    have c4 : wr.cell? ⟨g, off + k * 6 + 4, none⟩ = some (.float .f64 fd) := hcell 4 _ rfl
    have c5 : wr.cell? ⟨g, off + k * 6 + 5, none⟩ = some (.bool bd) := hcell 5 _ rfl
    clear hcell
    have hz : ∀ w, Calls Tryz.prog 14 #[.agg (VD.cells ⟨kd, sd, nd, ud, fd, bd⟩)] w fun e w' => e = .returned (.bool (fitV ⟨kd, sd, nd, ud, fd, bd⟩)) ∧ Fr [] w w' := fun w => zzFits3_b ⟨kd, sd, nd, ud, fd, bd⟩ w
    simp only [VD.cells] at hz
    cases hf : fitV ⟨kd, sd, nd, ud, fd, bd⟩ with
    | false =>
      rw [hf] at hz
      have HZ := Lib.hid hz
      have HFX := Lib.hid hf
      clear hz hf hx hlk
      go_wp2_with (go_at_call 14; refine (HZ.out _).mono ?_; rintro e w2 ⟨rfl, hf2⟩)
      go_ret
      refine ⟨ret_bool ?_, (HF.out.alloc _).trans hf2⟩
      rw [HR.out, all_stop _ _ _ _ HX.out HFX.out]
    | true =>
      rw [hf] at hz
      have HZ := Lib.hid hz
      have HFX := Lib.hid hf
      clear hz hf hx hlk
      go_wp2_with (go_at_call 14; refine (HZ.out _).mono ?_; rintro e w2 ⟨rfl, hf2⟩; have HF2 := Lib.hid ((HF.out.alloc _).trans hf2); clear hf2)
      go_roundw
      case rel => exact ⟨k + 1, by omega, by go_num, Lib.hid (by rw [all_take_succ _ _ _ _ HX.out, HA.out, HFX.out]; rfl), HF2⟩
      case measure => simp [intOf]; omega
set_option maxRecDepth 100000 in
set_option maxHeartbeats 1000000 in
theorem zzFits5_any (e : LnD) (cs : Array Value) (w : World) (h1 : e.tags.length ≤ 9223372036854775807) (h2 : e.fields.length ≤ 9223372036854775807) (h3 : e.values.length ≤ 9223372036854775807) (hE : LineIn w cs e) :
    Calls Tryz.prog 43 #[.agg cs] w fun ε w' => ε = .returned (.bool (fitL e)) ∧ Fr [] w w' := by
  obtain ⟨tv, fv, vv, rfl, ht, hf, hv⟩ := hE
  obtain ⟨nm, tags, fields, values, n, non, raw⟩ := e
  simp only at ht hf hv h1 h2 h3
  have k1 := fun w (h : PairsIn w tv tags) => zzFits6_any tags tv w h1 h
  have k2 := fun w (h : PairsIn w fv fields) => zzFits6_any fields fv w h2 h
  have k3 := fun w (h : ValsIn w vv values) => zzFits8_any values vv w h3 h
  obtain ⟨at', ct, htv, _⟩ := id ht
  obtain ⟨af, cf, hfv, _⟩ := id hf
  obtain ⟨av, cv, hvv, _⟩ := id hv
  have HT := Lib.hid ht
  have HF := Lib.hid hf
  have HV := Lib.hid hv
  clear ht hf hv
  subst htv hfv hvv
  unfold fitL
  simp only
  obtain ⟨w1, hw1⟩ : ∃ x, x = w.alloc (.cells #[.string nm, .slice at' tags.length ct, .slice af fields.length cf, .slice av values.length cv, .int .i64 n, .bool non, .bool raw] 43) := ⟨_, rfl⟩
  have hf1 : Fr [] w w1 := by rw [hw1]; exact (Fr.refl _ _).alloc _
  have hb1 : w1.heap[w.heap.size]? = some (.cells #[.string nm, .slice at' tags.length ct, .slice af fields.length cf, .slice av values.length cv, .int .i64 n, .bool non, .bool raw] 43 (0, 0)) := by rw [hw1]; exact heap_alloc_new _ _
  have HW1 := Lib.hid hw1
  have HF1 := Lib.hid hf1
  have HB1 := Lib.hid hb1
  have K1 := Lib.hid k1
  have K2 := Lib.hid k2
  have K3 := Lib.hid k3
  clear hw1 hf1 hb1 k1 k2 k3
  obtain ⟨b1, hb1⟩ : ∃ b, b = fitPs tags := ⟨_, rfl⟩
  obtain ⟨b2, hb2⟩ : ∃ b, b = fitPs fields := ⟨_, rfl⟩
  obtain ⟨b3, hb3⟩ : ∃ b, b = fitVs values := ⟨_, rfl⟩
  rw [← hb1] at K1 ⊢
  rw [← hb2] at K2 ⊢
  rw [← hb3] at K3 ⊢
  clear hb1 hb2 hb3
  by_cases hn : nm.size ≤ 2147483647
  case neg =>
    have hni : (2147483647 : Int) < (nm.size : Int) := by omega
    rw [decide_eq_false hn, Bool.false_and]
    go_enter Tryz.func43, Tryz.ntmps43
    go_wp2_with fail
    go_ret
    exact ⟨rfl, (Fr.refl _ _).alloc _⟩
  have hni : (nm.size : Int) ≤ 2147483647 := by omega
  rw [decide_eq_true hn, Bool.true_and]
  go_enter Tryz.func43, Tryz.ntmps43
  go_upto_region 3 with fail
  rw [← HW1.out]
  have d1 := cell_of_row w1 w.heap.size 1 _ 43 _ HB1.out
  cases b1 with
  | false =>
    go_wp2_with (go_at_call 77; refine (K1.out _ (HT.out.fr HF1.out)).mono ?_; rintro e w2 ⟨rfl, hf2⟩)
    go_ret
    exact ⟨rfl, HF1.out.trans hf2⟩
  | true =>
    go_upto_region 5 with (go_at_call 77; refine (K1.out _ (HT.out.fr HF1.out)).mono ?_; rintro e w2 ⟨rfl, hf2⟩; have HF2 := Lib.hid (HF1.out.trans hf2); have d2 := hf2.cell (cell_of_row w1 w.heap.size 2 _ 43 _ HB1.out) List.not_mem_nil; have d3 := hf2.cell (cell_of_row w1 w.heap.size 3 _ 43 _ HB1.out) List.not_mem_nil; clear hf2)
    cases b2 with
    | false =>
      go_wp2_with (go_at_call 77; refine (K2.out _ (HF.out.fr HF2.out)).mono ?_; rintro e w3 ⟨rfl, hf3⟩)
      go_ret
      exact ⟨rfl, HF2.out.trans hf3⟩
    | true =>
      go_wp2_with (first
        | (go_at_call 77; refine (K2.out _ (HF.out.fr HF2.out)).mono ?_; rintro e w3 ⟨rfl, hf3⟩; have HF3 := Lib.hid (HF2.out.trans hf3); have d33 := hf3.cell d3 List.not_mem_nil; clear hf3)
        | (go_at_call 78; refine (K3.out _ (HV.out.fr HF3.out)).mono ?_; rintro e w4 ⟨rfl, hf4⟩; have HF4 := Lib.hid (HF3.out.trans hf4); clear hf4; cases b3))
      all_goals
        go_wp2_with fail
        go_ret
        exact ⟨rfl, HF4.out⟩
end Go.Proofs.YtaaogjhaokaggaaGreatDoor
namespace Go.Proofs.YtaaogjhaokaggaaGreatDoor
open Go.RowKit

/-- What Go's types say of a line. -/
structure LnOk (e : LnD) : Prop where
  tags : e.tags.length ≤ 9223372036854775807
  fields : e.fields.length ≤ 9223372036854775807
  values : e.values.length ≤ 9223372036854775807
  n0 : -9223372036854775808 ≤ e.n
  n1 : e.n ≤ 9223372036854775807
  vals : ∀ d, d ∈ e.values → -9223372036854775808 ≤ d.n ∧ d.n ≤ 9223372036854775807 ∧ d.u < 18446744073709551616 ∧ d.f < 18446744073709551616
set_option maxRecDepth 100000 in
set_option maxHeartbeats 1000000 in
theorem zzFits4_any (l : List LnD) (v : Value) (w : World) (hl : l.length ≤ 9223372036854775807) (hok : ∀ e, e ∈ l → LnOk e) (hP : LinesIn w v l) :
    Calls Tryz.prog 20 #[v] w fun e w' => e = .returned (.bool (fitLs l)) ∧ Fr [] w w' := by
  obtain ⟨a, c, rfl, h⟩ := hP
  unfold fitLs
  by_cases hn : l.length ≤ 2147483647
  case neg =>
    have hni : (2147483647 : Int) < (l.length : Int) := by omega
    rw [decide_eq_false hn, Bool.false_and]
    clear h hok
    go_enter Tryz.func20, Tryz.ntmps20
    go_wp2_with fail
    go_ret
    exact ⟨rfl, Fr.refl _ _⟩
  have hni : (l.length : Int) ≤ 2147483647 := by omega
  rw [decide_eq_true hn, Bool.true_and]
  have HH := Lib.hid h
  clear h
  obtain ⟨N, hN⟩ : ∃ N, N = l.length := ⟨_, rfl⟩
  rw [← hN] at hn hni hl ⊢
  obtain ⟨R, hR⟩ : ∃ R, R = l.all fitL := ⟨_, rfl⟩
  rw [← hR]
  have HR := Lib.hid hR
  have HN := Lib.hid hN
  clear hR hN
  have HOK := Lib.hid hok; clear hok
  go_enter Tryz.func20, Tryz.ntmps20
  go_wp2_with fail
  go_loopw [10] (fun i wr => ∃ k : Nat, k ≤ N ∧ i = .int .i64 k ∧ Hid ((l.take k).all fitL = true) ∧ Hid (Fr [] w wr)) (fun i _ => N - (intOf i).toNat)
  case atStart => exact ⟨0, Nat.zero_le _, rfl, Lib.hid (by simp), Lib.hid (Fr.refl _ _)⟩
  case round =>
    obtain ⟨k, hk, rfl, HA, HF⟩ := hrel
    by_cases hlt : k < N
    case neg =>
      go_wp2_with fail
      go_ret
      refine ⟨ret_bool ?_, HF.out⟩
      have := HA.out
      rw [List.take_of_length_le (by rw [← HN.out]; omega)] at this
      rw [HR.out, this]
    have hlk : k < l.length := by rw [← HN.out]; exact hlt
    obtain ⟨x, hx⟩ : ∃ x, l[k]? = some x := ⟨l[k], List.getElem?_eq_getElem hlk⟩
    have HX := Lib.hid hx
    have hg : ∃ g off, a = some ⟨g, off, none⟩ ∧ ∃ cs, LineIn wr cs x ∧ ∀ j u, cs[j]? = some u → wr.cell? ⟨g, off + k * 7 + j, none⟩ = some u := by
      rcases HH.out with h | ⟨g, off, h1, h2⟩
      · subst h; simp at hlk
      · obtain ⟨cs, h3, h4⟩ := h2 k x hx
        exact ⟨g, off, h1, cs, h3.fr HF.out, fun j u hu => HF.out.cell (h4 j u hu) List.not_mem_nil⟩
    obtain ⟨g, off, rfl, cs, hline, hcell⟩ := hg
    have ho := HOK.out x (List.mem_of_getElem? hx)
    have hz : ∀ w', Fr [] wr w' → Calls Tryz.prog 43 #[.agg cs] w' fun ε w' => ε = .returned (.bool (fitL x)) ∧ Fr [] _ w' := fun w' hf => zzFits5_any x cs w' ho.tags ho.fields ho.values (hline.fr hf)
    obtain ⟨tv, fv, vv, rfl, ⟨ta, tc, rfl, _⟩, ⟨fa, fc, rfl, _⟩, ⟨va, vc, rfl, _⟩⟩ := hline
    have c0 : wr.cell? ⟨g, off + k * 7, none⟩ = some (.string x.name) := hcell 0 _ rfl
    have c1 : wr.cell? ⟨g, off + k * 7 + 1, none⟩ = some (.slice ta x.tags.length tc) := hcell 1 _ rfl
    have c2 : wr.cell? ⟨g, off + k * 7 + 2, none⟩ = some (.slice fa x.fields.length fc) := hcell 2 _ rfl
    have c3 : wr.cell? ⟨g, off + k * 7 + 3, none⟩ = some (.slice va x.values.length vc) := hcell 3 _ rfl
    have c4 : wr.cell? ⟨g, off + k * 7 + 4, none⟩ = some (.int .i64 x.n) := hcell 4 _ rfl
    have c5 : wr.cell? ⟨g, off + k * 7 + 5, none⟩ = some (.bool x.non) := hcell 5 _ rfl
    have c6 : wr.cell? ⟨g, off + k * 7 + 6, none⟩ = some (.bool x.raw) := hcell 6 _ rfl
    clear hcell ho
    cases hf : fitL x with
    | false =>
      rw [hf] at hz
      have HZ := Lib.hid hz
      have HFX := Lib.hid hf
      clear hz hf hx hlk
      go_wp2_with (go_at_call 43; refine (HZ.out _ ((Fr.refl _ _).alloc _)).mono ?_; rintro e w2 ⟨rfl, hf2⟩)
      go_ret
      refine ⟨ret_bool ?_, (HF.out.alloc _).trans hf2⟩
      rw [HR.out, all_stop _ _ _ _ HX.out HFX.out]
    | true =>
      rw [hf] at hz
      have HZ := Lib.hid hz
      have HFX := Lib.hid hf
      clear hz hf hx hlk
      go_wp2_with (go_at_call 43; refine (HZ.out _ ((Fr.refl _ _).alloc _)).mono ?_; rintro e w2 ⟨rfl, hf2⟩; have HF2 := Lib.hid ((HF.out.alloc _).trans hf2); clear hf2)
      go_roundw
      case rel => exact ⟨k + 1, by omega, by go_num, Lib.hid (by rw [all_take_succ _ _ _ _ HX.out, HA.out, HFX.out]; rfl), HF2⟩
      case measure => simp [intOf]; omega
end Go.Proofs.YtaaogjhaokaggaaGreatDoor
