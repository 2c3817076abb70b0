/- PROVED HERE: a part of round r2's proofs (text TkA): lemmas and walks that later texts use. CONDITIONS: those written ahead of each theorem. -/
import Derived.Test.YtpkkgngpjeoffaaGreatDoorStwT
namespace Go.Proofs.YtpkkgngpjeoffaaGreatDoor
open Go.RowKit

/-- spec.Taker: block t. -/
def Tk (w : World) (t : Nat) (S : ByteArray) (a : Nat) : Prop := w.heap[t]? = some (.cells #[.string S, .int .i64 a, .bool false, .int .i64 0] 66 (0, 0))
theorem Tk.fr {w w' : World} {t : Nat} {S : ByteArray} {a : Nat} {T : List Nat} (h : Tk w t S a) (f : Fr T w w') (ht : t ∉ T) : Tk w' t S a := f.blk h ht
theorem Tk.put {w : World} {t : Nat} {S : ByteArray} {a : Nat} (h : Tk w t S a) (k : Nat) : Tk (w.setCell ⟨t, 1, none⟩ (.int .i64 k)) t S k := by
  have := heap_setCell_same w t 1 _ 66 (.int .i64 k) h
  unfold Tk
  simpa using this
def tkAt (t : Nat) (w : World) : Nat := match w.heap[t]? with | some (.cells #[_, .int _ a, _, _] _ _) => a.toNat | _ => 0
theorem Tk.at_ {w : World} {t : Nat} {S : ByteArray} {a : Nat} (h : Tk w t S a) : tkAt t w = a := by
  unfold Tk at h
  unfold tkAt
  rw [h]
  rfl
theorem index_get (S : ByteArray) (i : Nat) (x : UInt8) (h : S.data.toList[i]? = some x) (w : World) : (Instr.index 9 (.string S) (.int .i64 i)).run Tryz.prog w = .ok (.int .u8 (x.toNat : Int)) w := by
  obtain ⟨h1, h2⟩ := List.getElem?_eq_some_iff.1 h
  have h3 : i < S.size := by simpa using h1
  have h4 : S[i] = x := by rw [← h2]; rfl
  have h5 : ((i : Int) < (S.size : Int)) := by omega
  simp [go_sem, Tryz.underlying9, h3, h4]
theorem line_byte {l : List UInt8} (rest : List UInt8) (hno : (10 : UInt8) ∉ l) {k : Nat} (hk : k ≤ l.length) : ∃ x, (l ++ 13 :: 10 :: rest)[k]? = some x ∧ x ≠ 10 := by
  by_cases h : k < l.length
  · refine ⟨l[k], by rw [List.getElem?_append_left h, List.getElem?_eq_getElem h], fun e => hno ?_⟩
    rw [← e]
    exact List.getElem_mem h
  · have : k = l.length := by omega
    subst this
    exact ⟨13, by simp, by decide⟩
theorem newTaker_any (S : ByteArray) (w : World) : Calls Tryz.prog 19 #[.string S] w fun e w' => ∃ t, e = .returned (.pointer (some ⟨t, 0, none⟩)) ∧ Fr [] w w' ∧ Tk w' t S 0 ∧ w.heap.size ≤ t := by
  go_enter Tryz.func19, Tryz.ntmps19
  go_wp2_with fail
  go_ret
  exact ⟨_, rfl, (Fr.refl [] w).alloc _, heap_alloc_new _ _, Nat.le_refl _⟩
theorem left_any (t : Nat) (S : ByteArray) (a m : Nat) (w : World) (h : Tk w t S a) (hm : S.size = a + m) (hs : S.size ≤ 1000000000) : Calls Tryz.prog 21 #[.pointer (some ⟨t, 0, none⟩)] w fun e w' => e = .returned (.int .i64 m) ∧ ∃ q, w' = w.drewN q := by
  have c0 := cell_of_row w t 0 _ 66 _ h
  have c1 := cell_of_row w t 1 _ 66 _ h
  have hd : wrap64 ((S.size : Int) - (a : Int)) = (m : Int) := by
    rw [show (S.size : Int) - (a : Int) = (m : Int) by omega]
    unfold wrap64
    omega
  clear h hm
  go_enter Tryz.func21, Tryz.ntmps21
  go_wp2_with fail
  go_quiet (fail)
  go_wp2_with fail
  go_ret
  exact ⟨by show Ending.returned (.int .i64 (wrap64 _)) = _; rw [hd], _, rfl⟩
theorem peek_any (t : Nat) (S : ByteArray) (a : Nat) (x : UInt8) (w : World) (h : Tk w t S a) (hx : S.data.toList[a]? = some x) (_hs : S.size ≤ 1000000000) : Calls Tryz.prog 46 #[.pointer (some ⟨t, 0, none⟩)] w fun e w' => e = .returned (.int .u8 (x.toNat : Int)) ∧ ∃ q, w' = w.drewN q := by
  have c0 := cell_of_row w t 0 _ 66 _ h
  have c1 := cell_of_row w t 1 _ 66 _ h
  have hix := fun W => index_get S a x hx W
  have ha : a < S.data.toList.length := (List.getElem?_eq_some_iff.1 hx).1
  have i2 : (a : Int) < (S.size : Int) := by rw [Lib.size_eq]; omega
  have hd : decide (a < S.size) = true := decide_eq_true (by omega)
  clear h hx ha
  go_enter Tryz.func46, Tryz.ntmps46
  go_wp2_with fail
  go_quiet (fail)
  go_wp2_with fail
  go_quiet (fail)
  go_wp2_with fail
  go_ret
  exact ⟨rfl, _, World.drewN_drewN _ _ _⟩
set_option maxRecDepth 100000 in
set_option maxHeartbeats 1000000 in
theorem line_any (t : Nat) (S : ByteArray) (a : Nat) (l rest : List UInt8) (w : World) (h : Tk w t S a) (hd : S.data.toList.drop a = l ++ 13 :: 10 :: rest) (hno : (10 : UInt8) ∉ l) (hs : S.size ≤ 1000000000) :
    Calls Tryz.prog 75 #[.pointer (some ⟨t, 0, none⟩)] w fun e w' => ∃ s : ByteArray, e = .returned (.tuple #[.string s, .bool true]) ∧ s.data.toList = l ∧ Fr [t] w w' ∧ Tk w' t S (a + l.length + 2) := by
  have hlen : S.size = a + (l.length + 2 + rest.length) := by
    have h1 := congrArg List.length hd
    rw [List.length_drop, ← Lib.size_eq] at h1
    simp at h1
    omega
  have hget : ∀ k, S.data.toList[a + k]? = (l ++ 13 :: 10 :: rest)[k]? := fun k => by rw [← hd, List.getElem?_drop]
  have HGET := Lib.hid hget
  have c1 := cell_of_row w t 1 _ 66 _ h
  obtain ⟨N, hN⟩ : ∃ N, N = l.length := ⟨_, rfl⟩
  have HN := Lib.hid hN
  have HNO := Lib.hid hno
  have HD := Lib.hid hd
  have HH := Lib.hid h
  obtain ⟨Z, hZ⟩ : ∃ Z, Z = S.size := ⟨_, rfl⟩
  have HZ := Lib.hid hZ
  rw [← hN] at hlen ⊢
  rw [← hZ] at hlen hs
  have ia : a + N + 2 ≤ Z := by omega
  clear h hd hno hget hN hlen hZ
  go_enter Tryz.func75, Tryz.ntmps75
  go_wp2_with fail
  clear c1
  go_loopw [9] (fun _ wr => Hid (∃ k : Nat, k ≤ N + 1 ∧ Tk wr t S (a + k) ∧ Fr [t] w wr)) (fun _ wr => Z - tkAt t wr)
  case atStart => exact Lib.hid ⟨0, by omega, HH.out, Fr.refl _ _⟩
  case round =>
    obtain ⟨k, hk, hT, hF⟩ := hrel.out
    have HT := Lib.hid hT
    have HF := Lib.hid hF
    have c0 := cell_of_row wr t 0 _ 66 _ hT
    have c1 := cell_of_row wr t 1 _ 66 _ hT
    have f1 := frozen_of_row wr t 1 _ 66 hT
    clear hT hF hrel
    have i2 : ((a + k : Nat) : Int) < (S.size : Int) := by rw [← HZ.out]; omega
    have hd1 : decide (a + k < S.size) = true := decide_eq_true (by rw [← HZ.out]; omega)
    obtain ⟨p, hp⟩ : ∃ p, p = a + k := ⟨_, rfl⟩
    rw [← hp] at i2 hd1 HT c1
    have HP := Lib.hid hp
    have i3 : (p : Int) ≤ 1000000000 := by omega
    clear hp
    go_upto_region 3 with fail
    go_quiet (fail)
    go_upto_region 4 with fail
    obtain ⟨w4, hw4⟩ : ∃ x, x = wr.drewN nq := ⟨_, rfl⟩
    rw [← hw4]
    have HT4 : Hid (Tk w4 t S p) := Lib.hid (by rw [hw4]; exact HT.out.fr ((Fr.refl [] wr).drewN nq) List.not_mem_nil)
    have HF4 : Hid (Fr [t] w w4) := Lib.hid (by rw [hw4]; exact HF.out.drewN nq)
    obtain ⟨w5, hw5⟩ : ∃ x, x = w4.setCell ⟨t, 1, none⟩ (.int .i64 ((p : Int) + 1)) := ⟨_, rfl⟩
    rw [← hw5]
    have HT5 : Hid (Tk w5 t S (p + 1)) := Lib.hid (by rw [hw5]; exact HT4.out.put (p + 1))
    have HF5 : Hid (Fr [t] w w5) := Lib.hid (by rw [hw5]; exact HF4.out.setCell (.inl (by simp)) _)
    have c0 : w5.cell? ⟨t, 0, none⟩ = some (.string S) := cell_of_row w5 t 0 _ 66 _ HT5.out
    have c1 : w5.cell? ⟨t, 1, none⟩ = some (.int .i64 ((p : Int) + 1)) := cell_of_row w5 t 1 _ 66 _ HT5.out
    clear hw4 hw5 f1
    by_cases hkN : k = N + 1
    · have hx : S.data.toList[p]? = some 10 := by rw [HP.out, HGET.out, hkN, HN.out]; simp
      have hy : S.data.toList[p - 1]? = some 13 := by rw [HP.out, show a + k - 1 = a + N from by omega, HGET.out, HN.out]; simp
      have hix := fun W => index_get S p 10 hx W
      have hiy := fun W => index_get S (p - 1) 13 hy W
      have hpp := HP.out
      obtain ⟨p', hp'⟩ : ∃ p', p' = p - 1 := ⟨_, rfl⟩
      rw [← hp'] at hiy
      have hw3 : IntKind.i64.wrap ((p : Int) + 1 - 2) = (p' : Int) := by rw [IntWalk.i64_in _ ⟨by omega, by omega⟩]; omega
      have i5 : (a : Int) ≤ (p' : Int) := by omega
      have i6 : (p' : Int) < (S.size : Int) := by omega
      have HP' := Lib.hid (show p' = a + N by omega)
      have i4 : (1 : Int) ≤ (p : Int) := by omega
      have hd2 : decide (IntKind.i64.wrap ((p : Int) + 1 - (a : Int)) < 2) = false := by
        have e : IntKind.i64.wrap ((p : Int) + 1 - (a : Int)) = (p : Int) + 1 - (a : Int) := IntWalk.i64_in _ ⟨by omega, by omega⟩
        rw [e]
        exact decide_eq_false (by omega)
      clear hx hy hpp hp'
      go_quiet (fail)
      go_upto_region 5 with fail
      go_quiet (fail)
      go_upto_region 7 with fail
      go_quiet (fail)
      go_wp2_with fail
      go_ret2
      refine ⟨S.extract a p', rfl, ?_, ((HF5.out.drewN _).drewN _).drewN _, ?_⟩
      · rw [ByteArray.data_extract, Array.toList_extract, List.extract_eq_take_drop, HD.out, HP'.out, show a + N - a = l.length from by rw [HN.out]; omega]
        simp
      · rw [show a + N + 2 = p + 1 from by rw [HP.out]; omega]
        exact (HT5.out.fr (((Fr.refl [] w5).drewN _).drewN _) List.not_mem_nil).fr ((Fr.refl [] _).drewN _) List.not_mem_nil
    · obtain ⟨x, hx, hx10⟩ := line_byte (l := l) rest HNO.out (k := k) (by rw [← HN.out]; omega)
      have hx' : S.data.toList[p]? = some x := by rw [HP.out, HGET.out, hx]
      have hix := fun W => index_get S p x hx' W
      have hd2 : ((x.toNat : Int) == 10) = false := by
        have : x.toNat ≠ 10 := fun e => hx10 (by apply UInt8.toNat_inj.1; simpa using e)
        simp; omega
      clear hx hx'
      go_quiet (fail)
      go_wp2_with fail
      go_roundw
      case rel => exact Lib.hid ⟨k + 1, by omega, by rw [show a + (k + 1) = p + 1 from by rw [HP.out]; omega]; exact HT5.out.fr ((Fr.refl [] w5).drewN _) List.not_mem_nil, HF5.out.drewN _⟩
      case measure =>
        have h1 := (HT5.out.fr ((Fr.refl [] w5).drewN nq) List.not_mem_nil).at_
        have h2 := HT.out.at_
        have h3 := HP.out
        omega
end Go.Proofs.YtpkkgngpjeoffaaGreatDoor
