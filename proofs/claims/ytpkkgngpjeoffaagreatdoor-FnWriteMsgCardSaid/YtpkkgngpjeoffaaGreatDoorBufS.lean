/- PROVED HERE: what a buffer's String tells, the state of no error, and a deferred recover that has nothing to recover. CONDITIONS: those ahead of each theorem. -/
import Derived.Test.YtpkkgngpjeoffaaGreatDoorMqT
import Derived.Recover
import Derived.Defers
import Derived.WideLaws
import Derived.WalkSpells
namespace Go.Proofs.YtpkkgngpjeoffaaGreatDoor
open Go.RowKit

theorem isBuf {w : World} {b : Nat} {v : Value} {l : List UInt8} (h : BufW w b v l) : Lib.IsBuffer 46 5 0 b (Lib.byteCells l) w := by
  obtain ⟨⟨lr, hb⟩, h⟩ := h
  refine ⟨Nat.zero_le _, v, lr, hb, ⟨by simp, ?_⟩, ?_⟩
  · rcases h with ⟨rfl, rfl⟩ | ⟨g, cap, cur, rfl, hg, hcs, hlc, hcm, ht, hgb⟩
    · exact .inl ⟨rfl, rfl⟩
    · refine .inr ⟨g, cap, cur, by simp [Lib.byteCells], Nat.zero_le _, hg, by simpa [Lib.byteCells] using hlc, hcm, by omega, ?_⟩
      simp only [Lib.byteCells, List.length_map, Nat.mul_one]
      exact ht
  · rcases h with ⟨rfl, rfl⟩ | ⟨g, cap, cur, rfl, hg, hcs, hlc, hcm, ht, hgb⟩
    · simp [Value.ownBlock]
    · simp [Value.ownBlock]; exact hgb
theorem bufString_any {w : World} {b : Nat} {v : Value} {l : List UInt8} (h : BufW w b v l) : Calls Tryz.prog 17 #[.pointer (some ⟨b, 0, none⟩)] w fun e w' => e = .returned (.string ⟨l.toArray⟩) ∧ Fr [] w w' := by
  refine (Tryz.Buffer_String 0 b l w (isBuf h)).mono ?_
  rintro e w' ⟨rfl, n, rfl⟩
  exact ⟨rfl, (Fr.refl [] w).drewN n⟩
theorem stateOf_nil (w : World) : Calls Tryz.prog 18 #[.nilIface] w fun e w' => e = .returned (.int .i64 0) ∧ w' = w := by
  go_enter Tryz.func18, Tryz.ntmps18
  go_wp2_with fail
  go_ret
  exact ⟨rfl, rfl⟩
theorem recover_idle31 (a b : Addr) (w : World) :
    CallsD Tryz.prog 31 #[.pointer (some a), .pointer (some b)] .returning w fun e u' w' => e = .returned (.tuple #[]) ∧ u' = .returning ∧ w' = w := by
  refine callsD_of_wpS Tryz.func31 rfl fun c₀ cs hu => ?_
  apply wpS_seq
  apply wpS_region
  simp [wpOpsS, go_sem, recoverD, hu, Tryz.ntmps31, Exit.thenS]
  refine wpS_cond (t := false) (by simp [Act.eval, Array.replicate]) ?_
  simp only [Bool.false_eq_true, if_false]
  refine wpS_of_wp (wp_skip ?_)
  cases c₀
  simp_all [bodyPostS, results, Tryz.results31]
theorem recover_idle23 (a b : Addr) (w : World) :
    CallsD Tryz.prog 23 #[.pointer (some a), .pointer (some b)] .returning w fun e u' w' => e = .returned (.tuple #[]) ∧ u' = .returning ∧ w' = w := by
  refine callsD_of_wpS Tryz.func23 rfl fun c₀ cs hu => ?_
  apply wpS_seq
  apply wpS_region
  simp [wpOpsS, go_sem, recoverD, hu, Tryz.ntmps23, Exit.thenS]
  refine wpS_cond (t := false) (by simp [Act.eval, Array.replicate]) ?_
  simp only [Bool.false_eq_true, if_false]
  refine wpS_of_wp (wp_skip ?_)
  cases c₀
  simp_all [bodyPostS, results, Tryz.results23]

/-- What a marshaler leaves, told from the world A ahead of the machine. -/
def MOut (A : World) (b : Nat) (out : List UInt8) (w' : World) : Prop := Fr [] A w' ∧ ∃ bv, BufW w' b bv out
theorem mq_out {A w3 w4 : World} {o bp b : Nat} {pv bv : Value} {po : Option (Nat × Value)} {out : List UInt8} (hf : Fr [] A w3) (hB : ∀ s, s ∈ mblk bp b pv po bv → A.heap.size ≤ s) (h : MQ w3 o bp b pv po bv [] out w4) : MOut A b out w4 := by
  obtain ⟨h1, pv', po', bv', hM, _⟩ := h
  refine ⟨hf.step h1 (fun s hs => .inr (hB s hs)), bv', ?_⟩
  simpa using hM.buf
theorem mach_new {w1 w3 : World} {o bp b : Nat} (h1 : w1.heap[b]? = some (.cells #[.slice none 0 0, .int .i64 0, .int .i8 0] 46 (0, 0))) (hf : Fr [] w1 w3) (ho : OptsS w3 o bp) (hp : PoolS w3 bp (.slice none 0 0) none) : Mach w3 o bp b (.slice none 0 0) none (.slice none 0 0) [] :=
  ⟨ho, hp, ⟨⟨0, hf.blk h1 List.not_mem_nil⟩, .inl ⟨rfl, rfl⟩⟩, fun _ _ h => by cases h⟩
theorem not_mblk {w2 : World} {cv : Value} {l : List UInt8} {bp b : Nat} (hc : Own w2 5 cv l) (hbp : w2.heap.size ≤ bp) (hb : ∀ g, cv.ownBlock = some g → b < g) : ∀ g, cv.ownBlock = some g → g ∉ mblk bp b (.slice none 0 0) none (.slice none 0 0) := by
  intro g hg hm
  have h1 := hc.lt g hg
  have h2 := hb g hg
  simp [mblk, Value.ownBlock] at hm
  omega
theorem mblk_new {bp b B : Nat} (hbp : B ≤ bp) (hb : B ≤ b) : ∀ s, s ∈ mblk bp b (.slice none 0 0) none (.slice none 0 0) → B ≤ s := by
  intro s hs
  simp [mblk, Value.ownBlock] at hs
  rcases hs with rfl | rfl <;> assumption
end Go.Proofs.YtpkkgngpjeoffaaGreatDoor
