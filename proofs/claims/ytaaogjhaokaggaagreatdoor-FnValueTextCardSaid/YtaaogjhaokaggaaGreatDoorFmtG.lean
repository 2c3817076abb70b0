import Derived.Test.YtaaogjhaokaggaaGreatDoorFeA
import Derived.Test.YtaaogjhaokaggaaGreatDoorFeB
import Derived.Test.YtaaogjhaokaggaaGreatDoorFeC
import Derived.Test.YtaaogjhaokaggaaGreatDoorFeD
import Derived.Test.YtaaogjhaokaggaaGreatDoorFfA
import Derived.Test.YtaaogjhaokaggaaGreatDoorFfB
namespace Go.Proofs.YtaaogjhaokaggaaGreatDoor
open Go.RowKit

/-- 'g' of the digits. -/
def gText (neg : Bool) (ds : List UInt8) (dp : Int) : List UInt8 := if dp < -3 ∨ 6 < dp then eText neg ds dp else fText neg ds dp

theorem fmtG_any (neg : Bool) (buf : Value) (l : List UInt8) (w : World) (g : Nat) (ds : List UInt8) (dp : Int) (hn : ds.length ≤ 32) (hd0 : -1000 ≤ dp) (hd1 : dp ≤ 1000) (hO : Own w 5 buf l) (hl : l.length ≤ 900000000) (hD : Dg w g ds) (hg : buf.ownBlock ≠ some g) :
    Calls Tryz.prog 139 #[buf, .bool neg, .slice (some ⟨g, 0, none⟩) 32 32, .int .i64 dp, .int .i64 ds.length, .int .i64 ds.length, .int .u8 103, .bool true] w (App w buf (l ++ gText neg ds dp)) := by
  unfold gText
  by_cases he : dp < -3 ∨ 6 < dp
  · rw [if_pos he]
    match ds, hn, hD with
    | [], hn, hD =>
      cases neg
      · rcases he with he | he
        · exact fe_f0y buf l w g [] dp rfl hd0 (by omega) hO hl hD hg
        · exact fe_f0z buf l w g [] dp rfl (by omega) hd1 hO hl hD hg
      · rcases he with he | he
        · exact fe_t0y buf l w g [] dp rfl hd0 (by omega) hO hl hD hg
        · exact fe_t0z buf l w g [] dp rfl (by omega) hd1 hO hl hD hg
    | [c], hn, hD =>
      rcases (show (7 ≤ dp ∧ dp ≤ 10) ∨ (11 ≤ dp ∧ dp ≤ 100) ∨ (101 ≤ dp ∧ dp ≤ 1000) ∨ (-8 ≤ dp ∧ dp ≤ -4) ∨ (-98 ≤ dp ∧ dp ≤ -9) ∨ (-1000 ≤ dp ∧ dp ≤ -99) by omega) with ⟨a, b⟩ | ⟨a, b⟩ | ⟨a, b⟩ | ⟨a, b⟩ | ⟨a, b⟩ | ⟨a, b⟩ <;> cases neg
      · exact fe_f1P1 buf l w g [c] dp c rfl a b hO hl hD hg
      · exact fe_t1P1 buf l w g [c] dp c rfl a b hO hl hD hg
      · exact fe_f1P2 buf l w g [c] dp c rfl a b hO hl hD hg
      · exact fe_t1P2 buf l w g [c] dp c rfl a b hO hl hD hg
      · exact fe_f1P3 buf l w g [c] dp c rfl a b hO hl hD hg
      · exact fe_t1P3 buf l w g [c] dp c rfl a b hO hl hD hg
      · exact fe_f1N1 buf l w g [c] dp c rfl a b hO hl hD hg
      · exact fe_t1N1 buf l w g [c] dp c rfl a b hO hl hD hg
      · exact fe_f1N2 buf l w g [c] dp c rfl a b hO hl hD hg
      · exact fe_t1N2 buf l w g [c] dp c rfl a b hO hl hD hg
      · exact fe_f1N3 buf l w g [c] dp c rfl a b hO hl hD hg
      · exact fe_t1N3 buf l w g [c] dp c rfl a b hO hl hD hg
    | c :: d :: r, hn, hD =>
      have h2 : 2 ≤ (c :: d :: r).length := by simp
      rcases (show (7 ≤ dp ∧ dp ≤ 10) ∨ (11 ≤ dp ∧ dp ≤ 100) ∨ (101 ≤ dp ∧ dp ≤ 1000) ∨ (-8 ≤ dp ∧ dp ≤ -4) ∨ (-98 ≤ dp ∧ dp ≤ -9) ∨ (-1000 ≤ dp ∧ dp ≤ -99) by omega) with ⟨a, b⟩ | ⟨a, b⟩ | ⟨a, b⟩ | ⟨a, b⟩ | ⟨a, b⟩ | ⟨a, b⟩ <;> cases neg
      · exact fe_f2P1 buf l w g _ dp c _ h2 hn ⟨rfl, rfl⟩ a b hO hl hD hg
      · exact fe_t2P1 buf l w g _ dp c _ h2 hn ⟨rfl, rfl⟩ a b hO hl hD hg
      · exact fe_f2P2 buf l w g _ dp c _ h2 hn ⟨rfl, rfl⟩ a b hO hl hD hg
      · exact fe_t2P2 buf l w g _ dp c _ h2 hn ⟨rfl, rfl⟩ a b hO hl hD hg
      · exact fe_f2P3 buf l w g _ dp c _ h2 hn ⟨rfl, rfl⟩ a b hO hl hD hg
      · exact fe_t2P3 buf l w g _ dp c _ h2 hn ⟨rfl, rfl⟩ a b hO hl hD hg
      · exact fe_f2N1 buf l w g _ dp c _ h2 hn ⟨rfl, rfl⟩ a b hO hl hD hg
      · exact fe_t2N1 buf l w g _ dp c _ h2 hn ⟨rfl, rfl⟩ a b hO hl hD hg
      · exact fe_f2N2 buf l w g _ dp c _ h2 hn ⟨rfl, rfl⟩ a b hO hl hD hg
      · exact fe_t2N2 buf l w g _ dp c _ h2 hn ⟨rfl, rfl⟩ a b hO hl hD hg
      · exact fe_f2N3 buf l w g _ dp c _ h2 hn ⟨rfl, rfl⟩ a b hO hl hD hg
      · exact fe_t2N3 buf l w g _ dp c _ h2 hn ⟨rfl, rfl⟩ a b hO hl hD hg
  · rw [if_neg he]
    by_cases h0 : 0 < dp
    · obtain ⟨D, rfl⟩ := Int.eq_ofNat_of_zero_le (show 0 ≤ dp by omega)
      by_cases h1 : ds.length ≤ D
      · cases neg
        · exact ff_f1 buf l w g ds _ D rfl h1 (by omega) (by omega) hO hl hD hg
        · exact ff_t1 buf l w g ds _ D rfl h1 (by omega) (by omega) hO hl hD hg
      · obtain ⟨q, hq⟩ : ∃ q, ds.length = D + q := ⟨ds.length - D, by omega⟩
        cases neg
        · exact ff_f2 buf l w g ds _ D q rfl hq (by omega) (by omega) (by omega) hn hO hl hD hg
        · exact ff_t2 buf l w g ds _ D q rfl hq (by omega) (by omega) (by omega) hn hO hl hD hg
    · obtain ⟨Z, hZ⟩ : ∃ Z : Nat, dp = -(Z : Int) := ⟨(-dp).toNat, by omega⟩
      by_cases h1 : 1 ≤ ds.length + Z
      · cases neg
        · exact ff_f3 buf l w g ds _ Z _ dp rfl hZ rfl h1 (by omega) hn hO hl hD hg
        · exact ff_t3 buf l w g ds _ Z _ dp rfl hZ rfl h1 (by omega) hn hO hl hD hg
      · have : ds = [] := List.eq_nil_of_length_eq_zero (by omega)
        subst this
        have : dp = 0 := by simp at h1; omega
        subst this
        cases neg
        · exact ff_fb buf l w g hO hl
        · exact ff_tb buf l w g hO hl
theorem fmt0_any (neg : Bool) (buf : Value) (l : List UInt8) (w : World) (hO : Own w 5 buf l) (hl : l.length ≤ 900000000) :
    Calls Tryz.prog 139 #[buf, .bool neg, .slice none 0 0, .int .i64 0, .int .i64 0, .int .i64 (-1), .int .u8 103, .bool true] w (App w buf (l ++ fText neg [] 0)) := by
  cases neg
  · exact ff_f0 buf l w hO hl
  · exact ff_t0 buf l w hO hl
end Go.Proofs.YtaaogjhaokaggaaGreatDoor
