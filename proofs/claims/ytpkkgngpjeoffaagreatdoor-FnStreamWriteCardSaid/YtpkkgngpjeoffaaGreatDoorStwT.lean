/- PROVED HERE: a part of round r2's proofs (text StwT): lemmas and walks that later texts use. CONDITIONS: those written ahead of each theorem. -/
import Derived.Test.YtpkkgngpjeoffaaGreatDoorStrW
import Derived.Recover
import Derived.Defers
import Derived.WideLaws
import Derived.WalkSpells
namespace Go.Proofs.YtpkkgngpjeoffaaGreatDoor
open Go.RowKit

theorem isBuf {w : World} {b : Nat} {v : Value} {l : List UInt8} (h : BufW w b v l) : Lib.IsBuffer 46 5 0 b (Lib.byteCells l) w := by
  obtain ⟨⟨lr, hb⟩, h⟩ := h
  refine ⟨Nat.zero_le _, v, lr, hb, ⟨by simp, ?_⟩, ?_⟩
  · rcases h with ⟨rfl, rfl⟩ | ⟨g, cap, cur, rfl, hg, hcs, hlc, hcm, ht, hgb⟩
    · exact .inl ⟨rfl, rfl⟩
    · refine .inr ⟨g, cap, cur, by simp [Lib.byteCells], Nat.zero_le _, hg, by simpa [Lib.byteCells] using hlc, hcm, by omega, ?_⟩
      simp only [Lib.byteCells, List.length_map, Nat.mul_one]
      exact ht
  · rcases h with ⟨rfl, rfl⟩ | ⟨g, cap, cur, rfl, hg, hcs, hlc, hcm, ht, hgb⟩
    · simp [Value.ownBlock]
    · simp [Value.ownBlock]; exact hgb
theorem bufString_any {w : World} {b : Nat} {v : Value} {l : List UInt8} (h : BufW w b v l) : Calls Tryz.prog 17 #[.pointer (some ⟨b, 0, none⟩)] w fun e w' => e = .returned (.string ⟨l.toArray⟩) ∧ Fr [] w w' := by
  refine (Tryz.Buffer_String 0 b l w (isBuf h)).mono ?_
  rintro e w' ⟨rfl, n, rfl⟩
  exact ⟨rfl, (Fr.refl [] w).drewN n⟩
theorem stateOf_nil (w : World) : Calls Tryz.prog 18 #[.nilIface] w fun e w' => e = .returned (.int .i64 0) ∧ w' = w := by
  go_enter Tryz.func18, Tryz.ntmps18
  go_wp2_with fail
  go_ret
  exact ⟨rfl, rfl⟩
theorem recover_idle13 (a b : Addr) (w : World) :
    CallsD Tryz.prog 13 #[.pointer (some a), .pointer (some b)] .returning w fun e u' w' => e = .returned (.tuple #[]) ∧ u' = .returning ∧ w' = w := by
  refine callsD_of_wpS Tryz.func13 rfl fun c₀ cs hu => ?_
  apply wpS_seq
  apply wpS_region
  simp [wpOpsS, go_sem, recoverD, hu, Tryz.ntmps13, Exit.thenS]
  refine wpS_cond (t := false) (by simp [Act.eval, Array.replicate]) ?_
  simp only [Bool.false_eq_true, if_false]
  refine wpS_of_wp (wp_skip ?_)
  cases c₀
  simp_all [bodyPostS, results, Tryz.results13]
/-- The wire of a streamed string. -/
def wireE (cs : List (List UInt8)) : List UInt8 := [36, 63, 13, 10] ++ (cs.map chunkE).flatten ++ chunkE []
set_option maxRecDepth 100000 in
set_option maxHeartbeats 4000000 in
theorem streamWrite_any {ea : Addr} (S : ByteArray) (sv : Value) (sz : List Int) (l : List UInt8) (w : World) (hG : Gv w.heap.size ea w) (hsv : SzS w w.heap.size sv sz) (hS : S.data.toList = l) (hsl : sz.length ≤ 1000) (hlen : l.length ≤ 10000) :
    Calls Tryz.prog 6 #[.string S, sv] w fun e w' => ∃ cs, Run (effS sz) 0 l cs ∧ e = .returned (.tuple #[.string ⟨(wireE cs).toArray⟩, .int .i64 0]) ∧ Fr [] w w' := by
  have hmf : ∀ (fn : Fn) (first cap : Array Value) (w : World), (Instr.makeFunc fn first cap).run Tryz.prog w = .ok (.func fn first cap) w := fun _ _ _ _ => rfl
  obtain ⟨ao, sc, hsve⟩ : ∃ a c, sv = .slice a sz.length c := by obtain ⟨a, c, e, _⟩ := hsv; exact ⟨a, c, e⟩
  obtain ⟨A, hA⟩ : ∃ A, A = (w.alloc (.cells #[.string { data := #[] }] 9)).alloc (.cells #[.int .i64 0] 3) := ⟨_, rfl⟩
  have hfA : Fr [] w A := by rw [hA]; exact ((Fr.refl [] w).alloc _).alloc _
  have hsA : A.heap.size = w.heap.size + 2 := by rw [hA]; simp
  have hr4 : A.heap[w.heap.size]? = some (.cells #[.string { data := #[] }] 9 (0, 0)) := by
    rw [hA]; exact ((Fr.refl [] _).alloc _).blk (heap_alloc_new w _) List.not_mem_nil
  have hr5 : A.heap[w.heap.size + 1]? = some (.cells #[.int .i64 0] 3 (0, 0)) := by
    rw [hA]
    have := heap_alloc_new (w.alloc (.cells #[.string { data := #[] }] 9)) (.cells #[.int .i64 0] 3)
    simpa using this
  obtain ⟨w1, hw1⟩ : ∃ x, x = A.alloc (.cells #[.slice none 0 0, .int .i64 0, .int .i8 0] 46) := ⟨_, rfl⟩
  have hf1 : Fr [] A w1 := by rw [hw1]; exact (Fr.refl [] A).alloc _
  have hb1 : w1.heap[A.heap.size]? = some (.cells #[.slice none 0 0, .int .i64 0, .int .i8 0] 46 (0, 0)) := by rw [hw1]; exact heap_alloc_new A _
  have HGA : Hid (Gv A.heap.size ea A) := Lib.hid (hG.fr hfA (fun _ h => by cases h)).base
  have HSV1 : Hid (SzS w1 A.heap.size sv sz) := Lib.hid (by
    obtain ⟨a, c, e, h⟩ := (hsv.fr hfA (fun _ h => by cases h)).fr hf1 (fun _ h => by cases h)
    exact ⟨a, c, e, fun hn => by obtain ⟨g, off, h1, h2, h3⟩ := h hn; exact ⟨g, off, h1, by omega, h3⟩⟩)
  have HA := Lib.hid hA
  have HFA := Lib.hid hfA
  have HSA := Lib.hid hsA
  have HR4 := Lib.hid hr4
  have HR5 := Lib.hid hr5
  have HW1 := Lib.hid hw1
  have HF1 := Lib.hid hf1
  have HB1 := Lib.hid hb1
  have HS := Lib.hid hS
  subst hsve
  clear hA hfA hsA hr4 hr5 hw1 hf1 hb1 hG hsv hS
  go_enter_defers Tryz.func6, Tryz.ntmps6
  go_upto_region 3 with fail
  rw [← HA.out, ← HW1.out]
  have heff : effS sz = [] ∨ anyPos (effS sz) = true := by
    unfold effS
    split
    · rename_i h; exact .inr h
    · exact .inl rfl
  have heff2 : (effS sz).length ≤ 1000 := by
    unfold effS
    split
    · exact hsl
    · simp
  have HE := Lib.hid heff
  have HE2 := Lib.hid heff2
  obtain ⟨b, hb⟩ : ∃ b, b = A.heap.size := ⟨_, rfl⟩
  have HB := Lib.hid hb
  rw [show w.heap.size + 1 + 1 = b from by rw [hb, HSA.out]]
  clear heff heff2 hb
  go_upto_region 4 with (first
    | (go_at_call 14; refine (newReader_any (B := A.heap.size) S _ sz w1 HSV1.out hsl).mono ?_; rintro e w2 ⟨r, sv2, rfl, hf2, hr2, hrow2, hsz2, hn2⟩; have HF2 := Lib.hid hf2; have HR2 := Lib.hid hr2; have HRW2 := Lib.hid hrow2; have HSZ2 := Lib.hid hsz2; have HN2 := Lib.hid hn2; clear hf2 hr2 hrow2 hsz2 hn2)
    | (go_at_call 16; refine (newOpts_any w2).mono ?_; rintro e w3 ⟨o, bp, rfl, hf3, ho3, hp3, hzo, hzb, hne⟩; have HF3 := Lib.hid hf3; have HO3 := Lib.hid ho3; have HP3 := Lib.hid hp3; have HZB := Lib.hid hzb; clear hf3 ho3 hp3 hzo hzb hne)
    | (go_at_call 15; refine (stream_any (ea := ea) A o bp b r sv2 (effS sz) S (.slice none 0 0) none (.slice none 0 0) [] l w3 ((HF1.out.trans HF2.out).trans HF3.out) HGA.out ⟨HO3.out, HP3.out, ⟨⟨0, by rw [HB.out]; exact HF3.out.blk (HF2.out.blk HB1.out List.not_mem_nil) List.not_mem_nil⟩, .inl ⟨rfl, rfl⟩⟩, fun _ _ h => by cases h⟩ (by
        intro s hs
        have h1 := HF1.out.size
        have h2 := HF2.out.size
        have h3 := HZB.out
        have h4 := HB.out
        simp [mblk, Value.ownBlock] at hs
        rcases hs with rfl | rfl <;> omega) (HF3.out.blk HRW2.out List.not_mem_nil) (Nat.le_trans HF1.out.size HR2.out) (HSZ2.out.fr HF3.out (fun _ h => by cases h)) HN2.out HE.out HE2.out HS.out hlen (by simp)).mono ?_; rintro e w4 ⟨rfl, hf4, cs, bv4, hrun4, hb4⟩; have HF4 := Lib.hid hf4; have HRUN := Lib.hid hrun4; have HB4 := Lib.hid hb4; clear hf4 hrun4 hb4))
  have HSTR := Lib.hid (bufString_any HB4.out)
  have HWE := Lib.hid (show [] ++ [36, 63, 13, 10] ++ (cs.map chunkE).flatten ++ chunkE [] = wireE cs by unfold wireE; simp)
  go_wp2_with (first
    | (go_at_call 17; refine HSTR.out.mono ?_; rintro e w5 ⟨rfl, hf5⟩; have HF5 := Lib.hid hf5; clear hf5)
    | (go_at_call 18; go_must (refine (stateOf_nil w5).mono ?_; rintro e w6 ⟨rfl, rfl⟩; have r4 := HF5.out.blk (HF4.out.blk HR4.out List.not_mem_nil) List.not_mem_nil; have r5 := HF5.out.blk (HF4.out.blk HR5.out List.not_mem_nil) List.not_mem_nil; have HQ4 := Lib.hid r4; have HQ5 := Lib.hid r5; have f4 := frozen_of_row w6 w.heap.size 0 _ 9 r4; have f5 := frozen_of_row w6 (w.heap.size + 1) 0 _ 3 r5; have d4 := cell_of_row w6 w.heap.size 0 _ 9 _ r4; have d5 := cell_of_row w6 (w.heap.size + 1) 0 _ 3 _ r5; clear r4 r5)))
  refine leaves_cons (f := 13) (args := #[.pointer (some ⟨w.heap.size, 0, none⟩), .pointer (some ⟨w.heap.size + 1, 0, none⟩)]) (by simp) (by simp [go_sem]) ?_
  refine (recover_idle13 _ _ _).mono ?_
  rintro e u' w'' ⟨rfl, rfl, rfl⟩
  simp [Leaves, settle, results, Tryz.results6, go_sem, d4, d5]
  refine ⟨cs, HRUN.out, by unfold wireE; simp, ?_⟩
  exact ((((HFA.out.trans HF4.out).trans HF5.out).setCell (.inr (by simp)) _).setCell (.inr (by simp)) _)
end Go.Proofs.YtpkkgngpjeoffaaGreatDoor
