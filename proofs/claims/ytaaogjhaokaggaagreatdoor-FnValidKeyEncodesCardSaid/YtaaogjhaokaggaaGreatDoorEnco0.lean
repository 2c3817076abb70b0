import Derived.Test.YtaaogjhaokaggaaGreatDoorPut
import Derived.Test.YtaaogjhaokaggaaGreatDoorLawsC
import Derived.Recover
import Derived.Defers
namespace Go.Proofs.YtaaogjhaokaggaaGreatDoor
open Go.RowKit

/-- A call of an encoder: none: refused. -/
def PutD.step (F : Nat → List UInt8) (st : St) (p : PutD) : Option St :=
  if p.op = 0 ∨ p.op = 9 then some (st.line p.key.data.toList)
  else if p.op = 1 ∨ p.op = 10 then some (st.tag p.key.data.toList p.value.data.toList)
  else if p.op = 2 ∨ p.op = 11 then p.v.made.map (st.field F p.key.data.toList)
  else if p.op = 3 then some (st.endl (if p.flag then none else some (p.n + p.more)))
  else if p.op = 4 then some { st with err := 0 }
  else if p.op = 5 then some { st with buf := [], sec := 0, err := 0 }
  else if p.op = 6 then (if 0 ≤ p.n ∧ p.n ≤ 3 then some { st with mul := ticks p.n.toNat } else none)
  else if p.op = 7 then some { st with lax := p.flag }
  else if p.op = 8 then some { st with buf := p.key.data.toList, sec := 0, err := 0 }
  else some st

def St0 : St := ⟨[], [], 0, 0, false, false, 0, 0⟩
/-- How an encoder stands behind the first k calls. -/
def sts (F : Nat → List UInt8) (l : List PutD) : Nat → Option St
  | 0 => some St0
  | k + 1 => (sts F l k).bind fun st => (l[k]?).bind fun p => p.step F st
def stood (st : St) : List Value := [.bool (st.err != 0), .bool (st.err == 2), .int .i64 st.buf.length]
def stoodL (F : Nat → List UInt8) (l : List PutD) : Nat → List Value
  | 0 => []
  | k + 1 => stoodL F l k ++ (match sts F l (k + 1) with | some st => stood st | none => [])

/-- The walk of one call. -/
def PutSaid (F : Nat → List UInt8) (st : St) (p : PutD) : Prop := ∀ (B : Nat) (ea : Addr) (b : Nat) (w : World), Gl B ea w → Enc B ea w b st →
  Calls Tryz.prog 45 #[.pointer (some ⟨b, 0, none⟩), .agg p.cells] w fun e w' => match p.step F st with
    | some st' => e = .returned (.bool true) ∧ Mid B ea b st' w w'
    | none => e = .returned (.bool false) ∧ Fr [] w w'

/-- A slice of calls in memory. -/
def PutsIn (w : World) (v : Value) (l : List PutD) : Prop := (l = [] ∧ ∃ a c, v = .slice a 0 c) ∨ ∃ g off cap cur fr, v = .slice (some ⟨g, off, none⟩) l.length cap ∧ w.heap[g]? = some (.cells cur 38 fr) ∧ ∀ i p, l[i]? = some p → ∀ j u, p.cells[j]? = some u → cur[off + i * 12 + j]? = some u

theorem recover_idle (a b c : Addr) (w : World) :
    CallsD Tryz.prog 44 #[.pointer (some a), .pointer (some b), .pointer (some c)] .returning w fun e u' w' => e = .returned (.tuple #[]) ∧ u' = .returning ∧ w' = w := by
  refine callsD_of_wpS Tryz.func44 rfl fun c₀ cs hu => ?_
  apply wpS_seq
  apply wpS_region
  simp [wpOpsS, go_sem, recoverD, hu, Tryz.ntmps44, Exit.thenS]
  refine wpS_cond (t := false) (by simp [Act.eval, Array.replicate]) ?_
  simp only [Bool.false_eq_true, if_false]
  refine wpS_of_wp (wp_skip ?_)
  cases c₀
  simp_all [bodyPostS, results, Tryz.results44]
end Go.Proofs.YtaaogjhaokaggaaGreatDoor
