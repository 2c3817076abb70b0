/- PROVED HERE: small functions of internal/strconv that the shortest float's digits call. CONDITIONS: those ahead of each theorem. -/
import Derived.Test.YtpkkgngpjeoffaaGreatDoorGlP
import Derived.Test.YtpkkgngpjeoffaaGreatDoorLawA
import Derived.Test.YtpkkgngpjeoffaaGreatDoorBufT
import Derived.Laws.BitsLemmas
import Derived.BigQuiet
import Derived.Deep.QuietTactic
import Derived.Deep.DeepCutAuto
namespace Go.Proofs.YtpkkgngpjeoffaaGreatDoor
open Go.RowKit

theorem l10_any (x : Int) (h0 : -2000 ≤ x) (h1 : x ≤ 2000) (w : World) :
    Calls Tryz.prog 131 #[.int .i64 x] w fun e w' => e = .returned (.int .i64 (x * 78913 / 262144)) ∧ w' = w := by
  go_enter Tryz.func131, Tryz.ntmps131
  go_wp2
  go_ret
  exact ⟨rfl, rfl⟩
theorem l2_any (x : Int) (h0 : -2000 ≤ x) (h1 : x ≤ 2000) (w : World) :
    Calls Tryz.prog 157 #[.int .i64 x] w fun e w' => e = .returned (.int .i64 (x * 108853 / 32768)) ∧ w' = w := by
  go_enter Tryz.func157, Tryz.ntmps157
  go_wp2
  go_ret
  exact ⟨rfl, rfl⟩
theorem skew_any (x : Int) (h0 : -2000 ≤ x) (h1 : x ≤ 2000) (w : World) :
    Calls Tryz.prog 155 #[.int .i64 x] w fun e w' => e = .returned (.int .i64 ((x * 631305 - 261663) / 2097152)) ∧ w' = w := by
  go_enter Tryz.func155, Tryz.ntmps155
  go_wp2
  go_ret
  exact ⟨rfl, rfl⟩
theorem b2_any (b : Bool) (w : World) :
    Calls Tryz.prog 149 #[.bool b] w fun e w' => e = .returned (.int .u64 (if b then 1 else 0)) ∧ w' = w := by
  cases b
  · go_enter Tryz.func149, Tryz.ntmps149
    go_wp2
    go_ret
    exact ⟨rfl, rfl⟩
  · go_enter Tryz.func149, Tryz.ntmps149
    go_wp2
    go_ret
    exact ⟨rfl, rfl⟩
theorem nudge_any (u d : Int) (w : World) : Calls Tryz.prog 159 #[.int .u64 u, .int .i64 d] w fun e w' => e = .returned (.int .u64 (IntKind.u64.wrap (u + IntKind.u64.wrap d))) ∧ w' = w := by
  go_enter Tryz.func159, Tryz.ntmps159
  go_wp2
  go_ret
  exact ⟨rfl, rfl⟩
theorem ceil_any (u : Int) (w : World) : Calls Tryz.prog 160 #[.int .u64 u] w fun e w' => e = .returned (.int .u64 (IntKind.u64.wrap (u + 3) / 4)) ∧ w' = w := by
  go_enter Tryz.func160, Tryz.ntmps160
  go_wp2
  go_ret
  exact ⟨rfl, rfl⟩
/-- A call that reads its arguments alone: whatever it answers, it answers it in every world. -/
theorem floor_ex (u : Int) : ∃ r : Int, (0 ≤ u → u < 18446744073709551616 → r = u / 4) ∧ ∀ w, Calls Tryz.prog 161 #[.int .u64 u] w fun e w' => e = .returned (.int .u64 r) ∧ w' = w := by
  apply Exists.intro
  refine ⟨?hh, fun w => ?cc⟩
  case cc =>
    go_enter Tryz.func161, Tryz.ntmps161
    go_wp2
    go_ret
    exact ⟨rfl, rfl⟩
  case hh =>
    intro h0 h1
    rw [IntKind.wrap_u64]; omega
theorem round_ex (u : Int) : ∃ r : Int, (0 ≤ r ∧ r < 18446744073709551616) ∧ ∀ w, Calls Tryz.prog 162 #[.int .u64 u] w fun e w' => e = .returned (.int .u64 r) ∧ w' = w := by
  apply Exists.intro
  refine ⟨?hh, fun w => ?cc⟩
  case cc =>
    go_enter Tryz.func162, Tryz.ntmps162
    go_wp2
    go_ret
    exact ⟨rfl, rfl⟩
  case hh =>
    rw [IntKind.wrap_u64]; omega
theorem and63 (s : Int) (h0 : 0 ≤ s) (h1 : s < 64) : bits .and .i64 s 63 = s := by
  have h := bits_mask .i64 63 (by decide) (fun n a b => by rw [IntKind.wrap_i64]; omega) 6 (by decide) s h0 (by omega)
  have e : s % 2 ^ 6 = s := Int.emod_eq_of_lt h0 (by omega)
  rw [e] at h
  exact h

theorem ten_lt (i : Nat) : (p10 i).1 < 18446744073709551616 ∧ (p10 i).2 < 18446744073709551616 := by
  have h : (Go.Pinned.pow10Rows.all fun x => decide (x.1 < 18446744073709551616) && decide (x.2 < 18446744073709551616)) = true := by kernel_rfl
  unfold p10
  cases hx : Go.Pinned.pow10Rows[i]? with
  | none => decide
  | some x =>
    have := List.all_eq_true.1 h x (List.mem_of_getElem? hx)
    simp at this
    exact this
set_option maxRecDepth 100000 in
theorem prescale_any {B : Nat} {ea : Addr} (b i : Nat) (hi : i < 696) (e lp : Int) (he0 : -4000 ≤ e) (he1 : e ≤ 4000) (hl0 : -4000 ≤ lp) (hl1 : lp ≤ 4000) (x y z : Int) (w : World) (hG : Gp B ea w) (hb : 14 ≤ b) (hr : w.heap[b]? = some (.cells #[.int .u64 x, .int .u64 y, .int .i64 z] 307 (0, 0))) :
    Calls Tryz.prog 156 #[.pointer (some ⟨b, 0, none⟩), .int .i64 e, .int .i64 ((i : Int) - 348), .int .i64 lp] w fun ε w' => ε = .returned (.tuple #[]) ∧ w'.heap[b]? = some (.cells #[.int .u64 (p10 i).1, .int .u64 (p10 i).2, .int .i64 (-(e + lp + 3))] 307 (0, 0)) ∧ Fr [b] w w' := by
  obtain ⟨t0, t1⟩ := hG.p10 i hi
  rw [Nat.mul_comm] at t0 t1
  have hn1 : ¬ 13 = b := by omega
  have hn2 : ¬ b = 13 := by omega
  have d0 := cell_of_row w b 0 _ 307 _ hr
  have d1 := cell_of_row w b 1 _ 307 _ hr
  have d2 := cell_of_row w b 2 _ 307 _ hr
  have f0 := frozen_of_row w b 0 _ 307 hr
  have f1 := frozen_of_row w b 1 _ 307 hr
  have f2 := frozen_of_row w b 2 _ 307 hr
  have HR := Lib.hid hr
  have k0 : (0 : Int) ≤ (i : Int) := by omega
  have k1 : (i : Int) < 696 := by omega
  have k2 : wrap64 ((i : Int) - 348 + 348) = (i : Int) := by unfold wrap64; omega
  clear hG hr
  go_enter Tryz.func156, Tryz.ntmps156
  go_wp2_with fail
  go_end0
  refine ⟨rfl, ?_, ?_⟩
  · skip
    exact heap_setCell_same _ _ 2 _ 307 _ (heap_setCell_same _ _ 1 _ 307 _ (heap_setCell_same _ _ 0 _ 307 _ HR.out))
  · exact (((Fr.refl [b] w).setCell (.inl (by simp)) _).setCell (.inl (by simp)) _).setCell (.inl (by simp)) _
end Go.Proofs.YtpkkgngpjeoffaaGreatDoor
namespace Go.Proofs.YtpkkgngpjeoffaaGreatDoor
open Go.RowKit

set_option maxRecDepth 100000 in
set_option maxHeartbeats 1000000 in
theorem uscale_ex (x hi lo : Nat) (hx : x < 18446744073709551616) (hh : hi < 18446744073709551616) (hl : lo < 18446744073709551616) (s : Int) (hs0 : 0 ≤ s) (hs1 : s < 64) :
    ∃ r : Int, ∀ (w : World) (b : Nat), w.heap[b]? = some (.cells #[.int .u64 hi, .int .u64 lo, .int .i64 s] 307 (0, 0)) → Calls Tryz.prog 158 #[.int .u64 x, .pointer (some ⟨b, 0, none⟩)] w fun e w' => e = .returned (.int .u64 r) ∧ Fr [] w w' := by
  have ha := and63 s hs0 hs1
  obtain ⟨H, M, hm1⟩ : ∃ H M : Int, ∀ w, Calls Tryz.prog 181 #[.int .u64 x, .int .u64 hi] w fun e w' => e = .returned (.tuple #[.int .u64 H, .int .u64 M]) ∧ w' = w := ⟨_, _, fun w => Tryz.bits_Mul64 x hi hx hh w⟩
  obtain ⟨H2, M2, hm2⟩ : ∃ H M : Int, ∀ w, Calls Tryz.prog 181 #[.int .u64 x, .int .u64 lo] w fun e w' => e = .returned (.tuple #[.int .u64 H, .int .u64 M]) ∧ w' = w := ⟨_, _, fun w => Tryz.bits_Mul64 x lo hx hl w⟩
  obtain ⟨B1, hb1⟩ : ∃ B : Int, ∀ w, Calls Tryz.prog 149 #[.bool (decide (M < H2))] w fun e w' => e = .returned (.int .u64 B) ∧ w' = w := ⟨_, fun w => b2_any _ w⟩
  obtain ⟨B2, hb2⟩ : ∃ B : Int, ∀ w, Calls Tryz.prog 149 #[.bool (decide (IntKind.u64.wrap (M - H2) > 1))] w fun e w' => e = .returned (.int .u64 B) ∧ w' = w := ⟨_, fun w => b2_any _ w⟩
  have HM1 := Lib.hid hm1
  have HM2 := Lib.hid hm2
  have HB1 := Lib.hid hb1
  have HB2 := Lib.hid hb2
  clear hm1 hm2 hb1 hb2
  cases hc : (IntKind.u64.wrap (H / 2 ^ s.toNat * 2 ^ s.toNat) != H) with
  | true =>
    apply Exists.intro
    intro w b hr
    have d0 := cell_of_row w b 0 _ 307 _ hr
    have d1 := cell_of_row w b 1 _ 307 _ hr
    have d2 := cell_of_row w b 2 _ 307 _ hr
    clear hr
    go_enter Tryz.func158, Tryz.ntmps158
    go_wp2_with (go_at_call 181; refine (HM1.out _).mono ?_; rintro e w1 ⟨rfl, rfl⟩)
    go_ret
    exact ⟨rfl, Fr.refl _ _⟩
  | false =>
    apply Exists.intro
    intro w b hr
    have d0 := cell_of_row w b 0 _ 307 _ hr
    have d1 := cell_of_row w b 1 _ 307 _ hr
    have d2 := cell_of_row w b 2 _ 307 _ hr
    clear hr
    go_enter Tryz.func158, Tryz.ntmps158
    go_wp2_with (first
      | (go_at_call_of 181 (Value.int .u64 hi); refine (HM1.out _).mono ?_; rintro e w1 ⟨rfl, rfl⟩)
      | (go_at_call 181; refine (HM2.out _).mono ?_; rintro e w1 ⟨rfl, rfl⟩)
      | (go_at_call 149; refine (HB1.out _).mono ?_; rintro e w1 ⟨rfl, rfl⟩))
    go_quiet ((go_at_call 149; exact Calls.quiet_of_same (HB2.out _)))
    go_wp2_with fail
    go_ret
    exact ⟨rfl, (Fr.refl _ _).drewN _⟩
end Go.Proofs.YtpkkgngpjeoffaaGreatDoor
namespace Go.Proofs.YtpkkgngpjeoffaaGreatDoor
open Go.RowKit

/-- Block g holds 32 bytes; the first are ds. -/
def Dg (w : World) (g : Nat) (ds : List UInt8) : Prop := ∃ cs T, w.heap[g]? = some (.cells cs T (0, 0)) ∧ cs.size = 32 ∧ ∀ i (h : i < ds.length), cs[i]? = some (bv ds[i])
theorem Dg.fr {S : List Nat} {w w' : World} {g : Nat} {ds : List UInt8} (h : Dg w g ds) (f : Fr S w w') (hs : g ∉ S) : Dg w' g ds := by
  obtain ⟨cs, T, h1, h2⟩ := h
  exact ⟨cs, T, f.blk h1 hs, h2⟩
theorem Dg.stp {w w' : World} {g : Nat} {ds : List UInt8} {v v' : Value} (h : Dg w g ds) (f : Stp w w' v v') (hs : v.ownBlock ≠ some g) : Dg w' g ds :=
  h.fr f.1 (fun hm => hs (by simpa using hm))
theorem Dg.lt {w : World} {g : Nat} {ds : List UInt8} (h : Dg w g ds) : g < w.heap.size := by
  obtain ⟨cs, T, h1, h2⟩ := h
  exact (Array.getElem?_eq_some_iff.1 h1).1
theorem Dg.cell {w : World} {g : Nat} {ds : List UInt8} (h : Dg w g ds) {i : Nat} (hi : i < ds.length) : w.cell? ⟨g, i, none⟩ = some (bv ds[i]) := by
  obtain ⟨cs, T, h1, _, h3⟩ := h
  have := h3 i hi
  exact (cell_of_row w g i cs T (0, 0) h1).trans this
theorem Dg.src {w : World} {g : Nat} {ds : List UInt8} (h : Dg w g ds) (a n c : Nat) (hn : a + n ≤ ds.length) : Src Tryz.prog 1 42 (.slice (some ⟨g, a, none⟩) n c) ((ds.drop a).take n).length (bvs ((ds.drop a).take n)) w := by
  have hl : ((ds.drop a).take n).length = n := by simp; omega
  rw [hl]
  refine Src.ofSlice w (e' := 5) u42 ⟨g, a, none⟩ n c _ (by rw [bvs_length, hl]; omega) (fun j u hu => ?_) (bvs_one _)
  have hj : j < ((ds.drop a).take n).length := by
    have := (List.getElem?_eq_some_iff.1 hu).1
    simpa [bvs] using this
  rw [Lib.add_plain, h.cell (show a + j < ds.length by omega), ← hu, bvs_at hj]
  simp
theorem Stp.ne {w w' : World} {g : Nat} {v v' : Value} (f : Stp w w' v v') (hg : g < w.heap.size) (hs : v.ownBlock ≠ some g) : v'.ownBlock ≠ some g := by
  rcases f.2 with h | ⟨k, h, hk⟩
  · rw [h]; exact hs
  · rw [h]; intro e; simp at e; omega

def expD (x : Nat) : List UInt8 :=
  if x < 10 then [48, UInt8.ofNat (48 + x)] else if x < 100 then [UInt8.ofNat (48 + x / 10), UInt8.ofNat (48 + x % 10)] else [UInt8.ofNat (48 + x / 100), UInt8.ofNat (48 + x / 10 % 10), UInt8.ofNat (48 + x % 10)]
/-- %e of the digits. -/
def eText (neg : Bool) (ds : List UInt8) (dp : Int) : List UInt8 :=
  (if neg then [45] else []) ++ [ds.headD 48] ++ (if 2 ≤ ds.length then 46 :: ds.drop 1 else []) ++ [101] ++ (if ds = [] ∨ 1 ≤ dp then [43] else [45]) ++ expD (if ds = [] then 0 else (dp - 1).natAbs)

theorem byteOf {n : Int} {k : Nat} (h : n = (k : Int)) (hk : k < 256) : n = ((UInt8.ofNat k).toNat : Int) := by
  rw [h, UInt8.toNat_ofNat']
  congr 1
  omega

theorem wpApp3 (w : World) {ops : Array Oper} {rest : List Oper} {o : Oper} {a : Act} {Q : Exit → Act → World → Prop}
    (hg : o.guard = none) (s x : Operand) (hop : o.op = Op.call { callee := Callee.builtin Builtin.append, args := #[s, x], argTypes := #[42, 42] })
    (v : Value) (l : List UInt8) (n m p : Int) (c d e : UInt8) (hc : n = (c.toNat : Int)) (hd : m = (d.toNat : Int)) (he : p = (e.toNat : Int)) (hv : a.eval s = v) (hx : a.eval x = .slice (some ⟨w.heap.size, 0, none⟩) 3 3) (hown : Own w 5 v l) (hlen : l.length + 3 ≤ 70368744177664)
    (hK : ∀ v' w', Own w' 5 v' (l ++ [c, d, e]) → Stp w w' v v' → wpList Tryz.prog ops Q rest (a.put o.dst v') w') :
    wpList Tryz.prog ops Q (o :: rest) a (w.alloc (.cells #[.int .u8 n, .int .u8 m, .int .u8 p] 5)) := by
  subst hc; subst hd; subst he
  have hal : Fr [] w (w.alloc (.cells #[.int .u8 (c.toNat : Int), .int .u8 (d.toNat : Int), .int .u8 (e.toNat : Int)] 5)) := (Fr.refl _ _).alloc _
  refine wpAppS _ hg s x 42 hop v l [c, d, e] _ hv hx (hown.fr hal (by simp)) (Src.ofSlice _ (e' := 5) u42 ⟨w.heap.size, 0, none⟩ 3 3 (bvs [c, d, e]) rfl (fun j u hu => ?_) (bvs_one _)) hlen (fun v' w' h1 h2 => hK v' w' h1 (Stp.pre hal h2))
  have hadd : (⟨w.heap.size, 0, none⟩ : Addr).add j = ⟨w.heap.size, j, none⟩ := by unfold Addr.add; split <;> simp_all
  rw [hadd, World.cell?_alloc_mark, ← hu]
  simp [bvs, bv]
theorem Dg.src' {w : World} {g : Nat} {ds : List UInt8} (h : Dg w g ds) {n : Nat} {c : Nat} (hn : ds.length = n) {m : Nat} (hm : m = (ds.drop 1).length) : Src Tryz.prog 1 42 (.slice (some ⟨g, 1, none⟩) m c) (ds.drop 1).length (bvs (ds.drop 1)) w := by
  rcases Nat.eq_zero_or_pos ds.length with h0 | h0
  · have : ds = [] := List.length_eq_zero_iff.1 h0
    subst this; subst hm
    exact Src.ofSlice w (e' := 5) u42 ⟨g, 1, none⟩ 0 c [] rfl (fun j u hu => by simp at hu) (by simp)
  · have := h.src 1 (ds.length - 1) c (by omega)
    rw [List.take_of_length_le (by simp)] at this
    subst hm
    simpa using this
end Go.Proofs.YtpkkgngpjeoffaaGreatDoor
