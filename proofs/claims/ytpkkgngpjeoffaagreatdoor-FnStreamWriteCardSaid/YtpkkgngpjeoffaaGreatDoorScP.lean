/- PROVED HERE: a part of round r2's proofs (text ScP): lemmas and walks that later texts use. CONDITIONS: those written ahead of each theorem. -/
import Derived.Test.YtpkkgngpjeoffaaGreatDoorTkF
import Derived.Test.YtpkkgngpjeoffaaGreatDoorLawC
namespace Go.Proofs.YtpkkgngpjeoffaaGreatDoor
open Go.RowKit

def strV (c : List UInt8) : Value := .string ⟨c.toArray⟩
theorem strV_of {m : ByteArray} {c : List UInt8} (h : m.data.toList = c) : Value.string m = strV c := by
  unfold strV
  rw [← h]
def posE (cs : List (List UInt8)) (k : Nat) : Nat := ((cs.take k).map chunkE).flatten.length
theorem posE_succ {cs : List (List UInt8)} {k : Nat} (h : k < cs.length) : posE cs (k + 1) = posE cs k + (chunkE cs[k]).length := by
  unfold posE
  rw [← List.take_append_getElem h, List.map_append, List.flatten_append, List.length_append]
  simp only [List.map_cons, List.map_nil, List.flatten_cons, List.flatten_nil, List.append_nil]
theorem drop_posE (cs : List (List UInt8)) {k : Nat} (h : k < cs.length) : ((cs.map chunkE).flatten ++ chunkE []).drop (posE cs k) = chunkE cs[k] ++ (((cs.drop (k + 1)).map chunkE).flatten ++ chunkE []) := by
  have e : cs = cs.take k ++ cs[k] :: cs.drop (k + 1) := by rw [← List.drop_eq_getElem_cons h, List.take_append_drop]
  have e2 : (cs.map chunkE).flatten = ((cs.take k).map chunkE).flatten ++ (chunkE cs[k] ++ ((cs.drop (k + 1)).map chunkE).flatten) := by
    conv => lhs; rw [e]
    rw [List.map_append, List.flatten_append, List.map_cons, List.flatten_cons]
  rw [e2, List.append_assoc, posE, List.drop_append_of_le_length (Nat.le_refl _), List.drop_length]
  simp
theorem drop_posE_end (cs : List (List UInt8)) : ((cs.map chunkE).flatten ++ chunkE []).drop (posE cs cs.length) = chunkE [] ++ [] := by
  unfold posE
  rw [List.take_length, List.drop_append_of_le_length (Nat.le_refl _), List.drop_length]
  simp
theorem posE_all (cs : List (List UInt8)) : ((cs.map chunkE).flatten ++ chunkE []).length = posE cs cs.length + (chunkE []).length := by
  unfold posE
  rw [List.take_length, List.length_append]
def slLen : Value → Nat
  | .slice _ n _ => n
  | _ => 0
end Go.Proofs.YtpkkgngpjeoffaaGreatDoor
