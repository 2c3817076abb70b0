/- PROVED HERE: the walks of MarshalRESP of Null (func 54) and Boolean (func 52): the bytes go behind what the buffer holds. CONDITIONS: those ahead of each theorem. -/
import Derived.Test.YtpkkgngpjeoffaaGreatDoorMqT
import Derived.Lib.SlBytesConst
namespace Go.Proofs.YtpkkgngpjeoffaaGreatDoor
open Go.RowKit

def bch (is : Bool) : UInt8 := if is then 116 else 102
theorem wr_mq {w w1 w' : World} {o bp b : Nat} {pv bv : Value} {po : Option (Nat × Value)} {bl m : List UInt8} (hM : Mach w o bp b pv po bv bl) (f : Fr [] w w1) (hW : WrQ w1 b bv bl m w') : MQ w o bp b pv po bv bl m w' := by
  obtain ⟨⟨c2, c3, c4, hOp⟩, ⟨⟨u, hu⟩, hPo⟩, hBf, hAp⟩ := hM
  obtain ⟨h1, v', hB', hbd⟩ := hW
  have h2 : Fr (b :: bv.ownBlock.toList) w w' := (f.sub (by simp)).trans h1
  have hvn : ∀ q v, po = some (q, v) → Own w 5 v [] → ∀ g, v.ownBlock = some g → g ∉ b :: bv.ownBlock.toList := by
    intro q v hq hO g hg hm
    obtain ⟨c, x, hr⟩ := own_tag hO hg
    rcases List.mem_cons.1 hm with rfl | hm
    · obtain ⟨lr, h⟩ := hBf.1
      exact ne_tag hr h (by decide) rfl
    · exact hAp q v hq g hg (by simpa using hm)
  refine ⟨h2.sub (fun s hs => .inl (by unfold mblk; rcases List.mem_cons.1 hs with rfl | hs <;> simp_all)), pv, po, v', ⟨⟨c2, c3, c4, h2.blk hOp (not_buf hBf hOp (by decide) (by decide))⟩, ⟨⟨u, h2.blk hu (not_buf hBf hu (by decide) (by decide))⟩, ?_⟩, hB', ?_⟩, ?_⟩
  · cases po with
    | none => exact OwnC.fr hPo h2 (fun g hg => by obtain ⟨c, x, hr⟩ := ownC_tag hPo hg; exact not_buf hBf hr (by decide) (by decide))
    | some p =>
      obtain ⟨q, v⟩ := p
      exact ⟨hPo.1.fr h2 (fun g hg => by obtain ⟨c, x, hr⟩ := ownC_tag hPo.1 hg; exact not_buf hBf hr (by decide) (by decide)), h2.blk hPo.2.1 (not_buf hBf hPo.2.1 (by decide) (by decide)), hPo.2.2.fr h2 (hvn q v rfl hPo.2.2)⟩
  · intro q v hq g hg e
    rcases hbd with h | ⟨k, h, hk⟩
    · exact hAp q v hq g hg (by rw [← h]; exact e)
    · rw [h] at e
      cases e
      subst hq
      obtain ⟨c, x, hr⟩ := own_tag hPo.2.2 hg
      have := (Array.getElem?_eq_some_iff.1 hr).1
      have := f.size
      omega
  · intro s hs
    unfold mblk at hs ⊢
    simp only [List.mem_cons, List.mem_append] at hs ⊢
    rcases hs with h | h | (h | h) | h
    · exact .inl (.inl h)
    · exact .inl (.inr (.inl h))
    · exact .inl (.inr (.inr (.inl (.inl h))))
    · rcases hbd with e | ⟨k, e, hk⟩
      · exact .inl (.inr (.inr (.inl (.inr (by rw [← e]; exact h)))))
      · rw [e] at h
        have : s = k := by simpa using h
        subst this
        exact .inr (Nat.le_trans f.size hk)
    · exact .inl (.inr (.inr (.inr h)))
set_option maxRecDepth 100000 in
theorem null_any (w : World) : Calls Tryz.prog 89 #[] w fun e w' => ∃ g, e = .returned (.slice (some ⟨g, 0, none⟩) 3 3) ∧ Fr [] w w' ∧ Own w' 5 (.slice (some ⟨g, 0, none⟩) 3 3) [95, 13, 10] ∧ w.heap.size ≤ g := by
  have hcv := Lib.run_convert_bytes_const (P := Tryz.prog) w 42 5 #[.int .u8 95, .int .u8 13, .int .u8 10] 3 3 u42 Tryz.underlying5
  go_enter Tryz.func89, Tryz.ntmps89
  go_wp2_with fail
  go_ret
  exact ⟨_, rfl, (Fr.refl [] w).alloc _, .inr ⟨_, _, rfl, _, _, heap_alloc_new _ _, fun j hj h => by simp at h hj; omega, by simp, by simp, by decide, by simp [bvs, bv]⟩, Nat.le_refl _⟩
set_option maxRecDepth 100000 in
theorem true_any (w : World) : Calls Tryz.prog 85 #[] w fun e w' => ∃ g, e = .returned (.slice (some ⟨g, 0, none⟩) 4 4) ∧ Fr [] w w' ∧ Own w' 5 (.slice (some ⟨g, 0, none⟩) 4 4) [35, 116, 13, 10] ∧ w.heap.size ≤ g := by
  have hcv := Lib.run_convert_bytes_const (P := Tryz.prog) w 42 5 #[.int .u8 35, .int .u8 116, .int .u8 13, .int .u8 10] 4 4 u42 Tryz.underlying5
  go_enter Tryz.func85, Tryz.ntmps85
  go_wp2_with fail
  go_ret
  exact ⟨_, rfl, (Fr.refl [] w).alloc _, .inr ⟨_, _, rfl, _, _, heap_alloc_new _ _, fun j hj h => by simp at h hj; omega, by simp, by simp, by decide, by simp [bvs, bv]⟩, Nat.le_refl _⟩
set_option maxRecDepth 100000 in
theorem false_any (w : World) : Calls Tryz.prog 86 #[] w fun e w' => ∃ g, e = .returned (.slice (some ⟨g, 0, none⟩) 4 4) ∧ Fr [] w w' ∧ Own w' 5 (.slice (some ⟨g, 0, none⟩) 4 4) [35, 102, 13, 10] ∧ w.heap.size ≤ g := by
  have hcv := Lib.run_convert_bytes_const (P := Tryz.prog) w 42 5 #[.int .u8 35, .int .u8 102, .int .u8 13, .int .u8 10] 4 4 u42 Tryz.underlying5
  go_enter Tryz.func86, Tryz.ntmps86
  go_wp2_with fail
  go_ret
  exact ⟨_, rfl, (Fr.refl [] w).alloc _, .inr ⟨_, _, rfl, _, _, heap_alloc_new _ _, fun j hj h => by simp at h hj; omega, by simp, by simp, by decide, by simp [bvs, bv]⟩, Nat.le_refl _⟩
/-- A write into the buffer, behind whatever was laid ahead. -/
theorem wr_at {w w1 : World} {b : Nat} {bv : Value} {bl m : List UInt8} {g n c : Nat} (hBf : BufW w b bv bl) (f : Fr [] w w1) (hO : Own w1 5 (.slice (some ⟨g, 0, none⟩) n c) m) (hm : m ≠ []) (hg : w.heap.size ≤ g) (hlim : bl.length + m.length ≤ 1000000000) :
    Calls Tryz.prog 205 #[.pointer (some ⟨b, 0, none⟩), .slice (some ⟨g, 0, none⟩) n c] w1 fun e w' => e = .returned (.tuple #[.int .i64 m.length, .nilIface]) ∧ WrQ w b bv bl m w' := by
  have hb : b < w.heap.size := by
    obtain ⟨lr, h⟩ := hBf.1
    exact (Array.getElem?_eq_some_iff.1 h).1
  refine (bufWrite_any b bv bl m (.slice (some ⟨g, 0, none⟩) n c) w1 (hBf.fr f List.not_mem_nil (fun _ _ => List.not_mem_nil)) hO hm (by simp [Value.ownBlock]; omega) (by omega)).mono ?_
  rintro e w' ⟨rfl, h⟩
  exact ⟨rfl, WrQ.pre f h⟩
set_option maxRecDepth 100000 in
set_option maxHeartbeats 4000000 in
theorem nul_any (o bp b : Nat) (pv : Value) (po : Option (Nat × Value)) (bv : Value) (bl : List UInt8) (w : World) (hM : Mach w o bp b pv po bv bl) (hlim : bl.length ≤ 100000000) :
    Calls Tryz.prog 54 #[.agg #[], .iface 56 (.pointer (some ⟨b, 0, none⟩)), .pointer (some ⟨o, 0, none⟩)] w fun e w' => e = .returned .nilIface ∧ MQ w o bp b pv po bv bl [95, 13, 10] w' := by
  have HM := Lib.hid hM
  clear hM
  have hme : ∀ W : World, (method 487 56 (.pointer (some ⟨b, 0, none⟩)) "Write").run Tryz.prog W = .ok (205, .pointer (some ⟨b, 0, none⟩)) W := fun _ => by kernel_rfl
  have hna : ∀ W : World, (nilAhead 487 56 (.pointer (some ⟨b, 0, none⟩)) "Write").run Tryz.prog W = .ok (some false) W := fun _ => by kernel_rfl
  have hmf : ∀ (fn : Fn) (first cap : Array Value) (w : World), (Instr.makeFunc fn first cap).run Tryz.prog w = .ok (.func fn first cap) w := fun _ _ _ _ => rfl
  obtain ⟨w1, hw1⟩ : ∃ w1, w1 = w.alloc (.cells #[] 133) := ⟨_, rfl⟩
  have HF1 : Hid (Fr [] w w1) := Lib.hid (by rw [hw1]; exact (Fr.refl [] w).alloc _)
  have HW1 := Lib.hid hw1
  clear hw1
  go_enter Tryz.func54, Tryz.ntmps54
  go_upto_region 1 with fail
  rw [← HW1.out]
  go_cut [7, 8] from 7 to 18 (fun _ x8 wx => x8 = .nilIface ∧ Hid (WrQ w b bv bl [95, 13, 10] wx))
  case first =>
    go_region_law (first
      | (go_simp; go_at_call 89; refine (null_any _).mono ?_; rintro e wd ⟨dg, rfl, hfd, hdd, hgd⟩; have HFD := Lib.hid (HF1.out.trans ((Fr.refl [] w1).drew.trans hfd)); have HDD := Lib.hid hdd; have HGD := Lib.hid (Nat.le_trans HF1.out.size hgd); clear hfd hdd hgd)
      | (go_simp; go_at_call 205; refine (wr_at HM.out.buf HFD.out HDD.out (by simp) HGD.out (by simp; omega)).mono ?_; rintro e wy ⟨rfl, hwr⟩; have HWQ := Lib.hid hwr; clear hwr))
    all_goals
      go_wp2_with fail
      go_meet
      exact ⟨rfl, HWQ⟩
  obtain ⟨rfl, HWQ⟩ := hcut
  go_wp2_with fail
  go_ret
  exact ⟨rfl, wr_mq HM.out (Fr.refl [] w) HWQ.out⟩
set_option maxRecDepth 100000 in
set_option maxHeartbeats 4000000 in
theorem bool_any (is : Bool) (o bp b : Nat) (pv : Value) (po : Option (Nat × Value)) (bv : Value) (bl : List UInt8) (w : World) (hM : Mach w o bp b pv po bv bl) (hlim : bl.length ≤ 100000000) :
    Calls Tryz.prog 52 #[.agg #[.bool is], .iface 56 (.pointer (some ⟨b, 0, none⟩)), .pointer (some ⟨o, 0, none⟩)] w fun e w' => e = .returned .nilIface ∧ MQ w o bp b pv po bv bl [35, bch is, 13, 10] w' := by
  have HM := Lib.hid hM
  clear hM
  have hme : ∀ W : World, (method 487 56 (.pointer (some ⟨b, 0, none⟩)) "Write").run Tryz.prog W = .ok (205, .pointer (some ⟨b, 0, none⟩)) W := fun _ => by kernel_rfl
  have hna : ∀ W : World, (nilAhead 487 56 (.pointer (some ⟨b, 0, none⟩)) "Write").run Tryz.prog W = .ok (some false) W := fun _ => by kernel_rfl
  have hmf : ∀ (fn : Fn) (first cap : Array Value) (w : World), (Instr.makeFunc fn first cap).run Tryz.prog w = .ok (.func fn first cap) w := fun _ _ _ _ => rfl
  cases is
  · rw [show bch false = 102 from rfl]
    obtain ⟨w1, hw1⟩ : ∃ w1, w1 = w.alloc (.cells #[.bool false] 129) := ⟨_, rfl⟩
    have HF1 : Hid (Fr [] w w1) := Lib.hid (by rw [hw1]; exact (Fr.refl [] w).alloc _)
    have hx1 : w1.heap[w.heap.size]? = some (.cells #[.bool false] 129 (0, 0)) := by rw [hw1]; exact heap_alloc_new _ _
    have x0 := cell_of_row w1 w.heap.size 0 _ 129 _ hx1
    have HW1 := Lib.hid hw1
    clear hw1 hx1
    go_enter Tryz.func52, Tryz.ntmps52
    go_upto_region 2 with fail
    rw [← HW1.out]
    go_upto_region 4 with fail
    go_cut [7] from 7 to 28 (fun x8 wx => x8 = .nilIface ∧ Hid (WrQ w b bv bl [35, 102, 13, 10] wx))
    case first =>
      go_region_law (first
        | (go_simp; go_at_call 86; refine (false_any _).mono ?_; rintro e wd ⟨dg, rfl, hfd, hdd, hgd⟩; have HFD := Lib.hid (HF1.out.trans ((Fr.refl [] w1).drew.trans hfd)); have HDD := Lib.hid hdd; have HGD := Lib.hid (Nat.le_trans HF1.out.size hgd); clear hfd hdd hgd)
        | (go_simp; go_at_call 205; refine (wr_at HM.out.buf HFD.out HDD.out (by simp) HGD.out (by simp; omega)).mono ?_; rintro e wy ⟨rfl, hwr⟩; have HWQ := Lib.hid hwr; clear hwr))
      all_goals
        go_wp2_with fail
        go_meet
        exact ⟨rfl, HWQ⟩
    obtain ⟨rfl, HWQ⟩ := hcut
    go_wp2_with fail
    go_ret
    exact ⟨rfl, wr_mq HM.out (Fr.refl [] w) HWQ.out⟩
  · rw [show bch true = 116 from rfl]
    obtain ⟨w1, hw1⟩ : ∃ w1, w1 = w.alloc (.cells #[.bool true] 129) := ⟨_, rfl⟩
    have HF1 : Hid (Fr [] w w1) := Lib.hid (by rw [hw1]; exact (Fr.refl [] w).alloc _)
    have hx1 : w1.heap[w.heap.size]? = some (.cells #[.bool true] 129 (0, 0)) := by rw [hw1]; exact heap_alloc_new _ _
    have x0 := cell_of_row w1 w.heap.size 0 _ 129 _ hx1
    have HW1 := Lib.hid hw1
    clear hw1 hx1
    go_enter Tryz.func52, Tryz.ntmps52
    go_upto_region 2 with fail
    rw [← HW1.out]
    go_upto_region 3 with fail
    go_cut [7] from 7 to 28 (fun x8 wx => x8 = .nilIface ∧ Hid (WrQ w b bv bl [35, 116, 13, 10] wx))
    case first =>
      go_region_law (first
        | (go_simp; go_at_call 85; refine (true_any _).mono ?_; rintro e wd ⟨dg, rfl, hfd, hdd, hgd⟩; have HFD := Lib.hid (HF1.out.trans ((Fr.refl [] w1).drew.trans hfd)); have HDD := Lib.hid hdd; have HGD := Lib.hid (Nat.le_trans HF1.out.size hgd); clear hfd hdd hgd)
        | (go_simp; go_at_call 205; refine (wr_at HM.out.buf HFD.out HDD.out (by simp) HGD.out (by simp; omega)).mono ?_; rintro e wy ⟨rfl, hwr⟩; have HWQ := Lib.hid hwr; clear hwr))
      all_goals
        go_wp2_with fail
        go_meet
        exact ⟨rfl, HWQ⟩
    obtain ⟨rfl, HWQ⟩ := hcut
    go_wp2_with fail
    go_ret
    exact ⟨rfl, wr_mq HM.out (Fr.refl [] w) HWQ.out⟩
end Go.Proofs.YtpkkgngpjeoffaaGreatDoor
