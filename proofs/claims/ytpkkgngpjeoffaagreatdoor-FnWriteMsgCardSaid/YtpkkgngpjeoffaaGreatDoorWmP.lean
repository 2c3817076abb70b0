/- PROVED HERE: each plain value that laws.FnWriteMsg asks is written as the message of its type is. CONDITIONS: those ahead of each theorem. -/
import Derived.Test.YtpkkgngpjeoffaaGreatDoorWrT
import Derived.Test.YtpkkgngpjeoffaaGreatDoorMwT
namespace Go.Proofs.YtpkkgngpjeoffaaGreatDoor
open Go.RowKit

/-- A plain value p and a message m are written alike: three bytes at least, and all went well. -/
def Pair (p m : Value) : Prop := ∃ S : ByteArray, 3 ≤ S.size ∧
  (∀ (ea : Addr) (w : World), Gp w.heap.size ea w → Calls Tryz.prog 10 #[p, .slice none 0 0] w fun e w' => e = .returned (.tuple #[.string S, .int .i64 0]) ∧ Fr [] w w') ∧
  (∀ (ea : Addr) (w : World), Gp w.heap.size ea w → Calls Tryz.prog 12 #[m, .bool true] w fun e w' => e = .returned (.tuple #[.string S, .int .i64 0]) ∧ Fr [] w w')
theorem size_list (l : List UInt8) : (⟨l.toArray⟩ : ByteArray).size = l.length := by simp [ByteArray.size]
theorem pair_str (s : ByteArray) (hs : s.size ≤ 1000000) : Pair (plV 1 s 0 0 false) (mgV 36 s 0 0 false) :=
  ⟨_, by rw [size_list]; simp; try omega, fun _ w hG => wr_str s hs w hG.toGv, fun _ w hG => mw_blob s hs w hG.toGv⟩
theorem pair_bytes (s : ByteArray) (hs : s.size ≤ 1000000) : Pair (plV 2 s 0 0 false) (mgV 36 s 0 0 false) :=
  ⟨_, by rw [size_list]; simp; try omega, fun _ w hG => wr_bytes s hs w hG.toGv, fun _ w hG => mw_blob s hs w hG.toGv⟩
theorem pair_err (s : ByteArray) (hs : s.size ≤ 1000000) : Pair (plV 8 s 0 0 false) (mgV 33 s 0 0 false) :=
  ⟨_, by rw [size_list]; simp; try omega, fun _ w hG => wr_err s hs w hG.toGv, fun _ w hG => mw_err s hs w hG.toGv⟩
theorem pair_bool (is : Bool) : Pair (plV 4 ⟨#[]⟩ 0 0 is) (mgV 35 ⟨#[]⟩ 0 0 is) :=
  ⟨_, by rw [size_list]; simp; try omega, fun _ w hG => wr_bool is w hG.toGv, fun _ w hG => mw_bool is w hG.toGv⟩
theorem pair_float (f : Nat) (hf : f < 18446744073709551616) : Pair (plV 5 ⟨#[]⟩ 0 f false) (mgV 44 ⟨#[]⟩ 0 f false) :=
  ⟨_, by rw [size_list]; simp; try omega, fun _ w hG => wr_float f hf w hG, fun _ w hG => mw_dbl f hf w hG⟩
theorem pair_int (n : Int) (h0 : -9223372036854775808 ≤ n) (h1 : n ≤ 9223372036854775807) : Pair (plV 6 ⟨#[]⟩ n 0 false) (mgV 58 ⟨#[]⟩ n 0 false) :=
  ⟨_, by rw [size_list]; simp; try omega, fun _ w hG => wr_int n h0 h1 w hG.toGv, fun _ w hG => mw_num n h0 h1 w hG.toGv⟩
theorem pair_nil  : Pair (plV 0 ⟨#[]⟩ 0 0 false) (mgV 95 ⟨#[]⟩ 0 0 false) :=
  ⟨_, by rw [size_list]; simp; try omega, fun _ w hG => wr_nil w hG.toGv, fun _ w hG => mw_nul w hG.toGv⟩
end Go.Proofs.YtpkkgngpjeoffaaGreatDoor
