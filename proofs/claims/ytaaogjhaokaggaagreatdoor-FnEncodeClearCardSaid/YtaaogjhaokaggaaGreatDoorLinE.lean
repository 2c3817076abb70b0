import Derived.Test.YtaaogjhaokaggaaGreatDoorLinX
import Derived.Test.YtaaogjhaokaggaaGreatDoorEncoX
import Derived.Test.YtaaogjhaokaggaaGreatDoorLawX
import Derived.Deep.RegionHeld3
import Derived.Deep.RegionLaw
namespace Go.Proofs.YtaaogjhaokaggaaGreatDoor
open Go.RowKit

def VD0 : VD := ⟨0, ⟨#[]⟩, 0, 0, 0, false⟩
/-- laws.lCalls. -/
def lnMore (e : LnD) : Int := if e.raw then 9 else 0
def lnHead (e : LnD) : PutD := ⟨lnMore e, e.name, ⟨#[]⟩, VD0, 0, 0, false⟩
def lnTag (m : Int) (p : ByteArray × ByteArray) : PutD := ⟨1 + m, p.1, p.2, VD0, 0, 0, false⟩
def lnField (m : Int) (p : (ByteArray × ByteArray) × VD) : PutD := ⟨2 + m, p.1.1, ⟨#[]⟩, p.2, 0, 0, false⟩
def lnEnd (e : LnD) : PutD := ⟨3, ⟨#[]⟩, ⟨#[]⟩, VD0, e.n, 0, e.non⟩
def lnTags (e : LnD) (k : Nat) : List PutD := lnHead e :: (e.tags.take k).map (lnTag (lnMore e))
def lnFields (e : LnD) (k : Nat) : List PutD := lnTags e e.tags.length ++ ((e.fields.zip e.values).take k).map (lnField (lnMore e))
def lnPuts (e : LnD) : List PutD := lnFields e e.fields.length ++ [lnEnd e]
def cellsOf (l : List PutD) : List Value := l.flatMap (·.cells.toList)

/-- A slice of calls that was made since w. -/
structure OutC (w wr : World) (v : Value) (l : List PutD) : Prop where
  own : OwnC wr 38 12 v l.length (cellsOf l)
  fr : Fr [] w wr
  new : ∀ g, v.ownBlock = some g → w.heap.size ≤ g
theorem OutC.next {w wr w2 : World} {v v2 : Value} {l : List PutD} {p : PutD} (h : OutC w wr v l) (ho : OwnC w2 38 12 v2 (l.length + 1) (cellsOf l ++ p.cells.toList)) (hf : Fr v.ownBlock.toList wr w2) (hb : v2.ownBlock = v.ownBlock ∨ ∃ g, v2.ownBlock = some g ∧ wr.heap.size ≤ g) : OutC w w2 v2 (l ++ [p]) := by
  refine ⟨?_, h.fr.step hf (fun t ht => .inr (h.new t (by simpa using ht))), fun g hg => ?_⟩
  · have e : cellsOf (l ++ [p]) = cellsOf l ++ p.cells.toList := by simp [cellsOf]
    rw [e, List.length_append]
    exact ho
  · rcases hb with h2 | ⟨k, h2, h3⟩
    · exact h.new g (h2 ▸ hg)
    · rw [h2] at hg; cases hg; exact Nat.le_trans h.fr.size h3
theorem OutC.fr0 {w wr w2 : World} {v : Value} {l : List PutD} (h : OutC w wr v l) (f : Fr [] wr w2) : OutC w w2 v l := ⟨h.own.fr f (fun _ _ => List.not_mem_nil), h.fr.trans f, h.new⟩
theorem lnTags_succ (e : LnD) (k : Nat) (p : ByteArray × ByteArray) (h : e.tags[k]? = some p) : lnTags e (k + 1) = lnTags e k ++ [lnTag (lnMore e) p] := by
  unfold lnTags
  rw [List.take_add_one, h]
  simp
theorem lnFields_succ (e : LnD) (k : Nat) (p : ByteArray × ByteArray) (d : VD) (h : e.fields[k]? = some p) (h2 : e.values[k]? = some d) : lnFields e (k + 1) = lnFields e k ++ [lnField (lnMore e) (p, d)] := by
  unfold lnFields
  have : (e.fields.zip e.values)[k]? = some (p, d) := by rw [List.getElem?_zip_eq_some]; exact ⟨h, h2⟩
  rw [List.take_add_one, this]
  simp
theorem lnTags_len (e : LnD) (k : Nat) : (lnTags e k).length ≤ 1 + e.tags.length := by simp [lnTags]; omega
theorem lnFields_len (e : LnD) (k : Nat) : (lnFields e k).length ≤ 1 + e.tags.length + e.fields.length := by
  have := lnTags_len e e.tags.length
  simp only [lnFields, List.length_append, List.length_map, List.length_take, List.length_zip]
  omega

set_option maxRecDepth 100000 in
set_option maxHeartbeats 4000000 in
theorem lCalls_any (e : LnD) (cs : Array Value) (w : World) (ht : e.tags.length ≤ 1000) (hf : e.fields.length ≤ 1000) (hv : e.values.length = e.fields.length) (hE : LineIn w cs e) :
    Calls Tryz.prog 22 #[.agg cs] w fun ε w' => ∃ v, ε = .returned v ∧ OutC w w' v (lnPuts e) := by
  obtain ⟨tv, fv, vv, rfl, ⟨ta, tc, rfl, htags⟩, ⟨fa, fc, rfl, hfields⟩, ⟨va, vc, rfl, hvals⟩⟩ := hE
  obtain ⟨i38, hi38, hz38, hs38, hb38⟩ := parts_c info38
  have hsf : ∀ (a : Addr) (k : FloatKind) (b : Nat) (m : Mode) (w : World), (store a (.float k b) m).run Tryz.prog w = stored Tryz.prog w a (.float k b) m := fun a k b m w => run_store Tryz.prog w a _ m rfl
  obtain ⟨m, hm⟩ : ∃ m : Int, m = lnMore e := ⟨_, rfl⟩
  obtain ⟨nm, tags, fields, values, n, non, raw⟩ := e
  simp only at *
  obtain ⟨w1, hw1⟩ : ∃ x, x = w.alloc (.cells #[.string nm, .slice ta tags.length tc, .slice fa fields.length fc, .slice va values.length vc, .int .i64 n, .bool non, .bool raw] 43) := ⟨_, rfl⟩
  have hf1 : Fr [] w w1 := by rw [hw1]; exact (Fr.refl _ _).alloc _
  have hb1 : w1.heap[w.heap.size]? = some (.cells #[.string nm, .slice ta tags.length tc, .slice fa fields.length fc, .slice va values.length vc, .int .i64 n, .bool non, .bool raw] 43 (0, 0)) := by rw [hw1]; exact heap_alloc_new _ _
  have HW1 := Lib.hid hw1
  have HF1 := Lib.hid hf1
  have HB1 := Lib.hid hb1
  have HT := Lib.hid htags
  have HFD := Lib.hid hfields
  have HVL := Lib.hid hvals
  have HVN := Lib.hid hv
  clear hw1 hf1 hb1 htags hfields hvals hv
  go_enter Tryz.func22, Tryz.ntmps22
  go_upto_region 2 with fail
  rw [← HW1.out]
  have d0 := cell_of_row w1 w.heap.size 0 _ 43 _ HB1.out
  have d1 := cell_of_row w1 w.heap.size 1 _ 43 _ HB1.out
  have d6 := cell_of_row w1 w.heap.size 6 _ 43 _ HB1.out
  cases raw with
  | false =>
    clear hm
    go_upto_region 5 with fail
    obtain ⟨w2, hw2⟩ : ∃ x, x = w1.alloc (.cells #[.int .i64 0, .string nm, .string ⟨#[]⟩, .int .i64 0, .string ⟨#[]⟩, .int .i64 0, .int .u64 0, .float .f64 0, .bool false, .int .i64 0, .int .i64 0, .bool false] 38) := ⟨_, rfl⟩
    rw [show (w1.alloc (.cells #[.int .i64 0, .string nm, .string ⟨#[]⟩, .int .i64 0, .string ⟨#[]⟩, .int .i64 0, .int .u64 0, .float .f64 0, .bool false, .int .i64 0, .int .i64 0, .bool false] 38)) = w2 from hw2.symm]
    have hf2 : Fr [] w1 w2 := by rw [hw2]; exact (Fr.refl _ _).alloc _
    have hb2 : w2.heap[w1.heap.size]? = some (.cells #[.int .i64 0, .string nm, .string ⟨#[]⟩, .int .i64 0, .string ⟨#[]⟩, .int .i64 0, .int .u64 0, .float .f64 0, .bool false, .int .i64 0, .int .i64 0, .bool false] 38 (0, 0)) := by rw [hw2]; exact heap_alloc_new _ _
    have hout : OutC w1 w2 (.slice (some ⟨w1.heap.size, 0, none⟩) 1 1) (lnTags (⟨nm, tags, fields, values, n, non, false⟩ : LnD) 0) := ⟨⟨rfl, by simp [cellsOf, lnTags, lnHead, PutD.cells, VD0, Value.oneCell'], .inr ⟨_, 1, rfl, _, _, hb2, fun j _ h => by omega, by simp, Nat.le_refl _, by simp [cellsOf, lnTags, lnHead, lnMore, PutD.cells, VD0]⟩⟩, hf2, fun g hg => by simp [Value.ownBlock] at hg; subst hg; exact Nat.le_refl _⟩
    have HO2 := Lib.hid hout
    have HB2 := Lib.hid (hf2.blk HB1.out List.not_mem_nil)
    have e1 := cell_of_row w2 w.heap.size 1 _ 43 _ HB2.out
    clear hw2 hf2 hb2 hout d0 d1 d6
    go_wp2_with fail
    go_loopw [4, 20] (fun v i wr => ∃ k : Nat, k ≤ tags.length ∧ i = .int .i64 k ∧ Hid (OutC w1 wr v (lnTags (⟨nm, tags, fields, values, n, non, false⟩ : LnD) k))) (fun _ i _ => tags.length - (intOf i).toNat)
    case atStart => exact ⟨0, Nat.zero_le _, rfl, HO2⟩
    case round =>
      obtain ⟨k, hk, rfl, HO⟩ := hrel
      by_cases hlt : k < tags.length
      case pos =>
        obtain ⟨x, hx⟩ : ∃ x, tags[k]? = some x := ⟨tags[k], List.getElem?_eq_getElem hlt⟩
        have HX := Lib.hid hx
        have hg : ∃ g off, ta = some ⟨g, off, none⟩ ∧ wr.cell? ⟨g, off + k * 2, none⟩ = some (.string x.1) ∧ wr.cell? ⟨g, off + k * 2 + 1, none⟩ = some (.string x.2) := by
          rcases HT.out with h | ⟨g, off, h1, h2⟩
          · rw [h] at hlt; simp at hlt
          · exact ⟨g, off, h1, (HF1.out.trans HO.out.fr).cell (h2 k x hx).1 List.not_mem_nil, (HF1.out.trans HO.out.fr).cell (h2 k x hx).2 List.not_mem_nil⟩
        obtain ⟨g, off, rfl, c0, c1⟩ := hg
        have hln : (lnTags (⟨nm, tags, fields, values, n, non, false⟩ : LnD) k).length ≤ 2000 := by have := lnTags_len (⟨nm, tags, fields, values, n, non, false⟩ : LnD) k; simp only at this; omega
        have HLN := Lib.hid hln
        clear hx hln
        obtain ⟨x1, x2⟩ := x
        simp only at c0 c1
        go_upto_region 8 with fail
        obtain ⟨w3, hw3⟩ : ∃ x, x = wr.alloc (.cells #[.string x1, .string x2] 80) := ⟨_, rfl⟩
        rw [← hw3]
        have hf3 : Fr [] wr w3 := by rw [hw3]; exact (Fr.refl _ _).alloc _
        have hb3 : w3.heap[wr.heap.size]? = some (.cells #[.string x1, .string x2] 80 (0, 0)) := by rw [hw3]; exact heap_alloc_new _ _
        have p0 : w3.cell? ⟨wr.heap.size, 0, none⟩ = _ := cell_of_row w3 wr.heap.size 0 _ 80 _ hb3
        have p1 : w3.cell? ⟨wr.heap.size, 1, none⟩ = _ := cell_of_row w3 wr.heap.size 1 _ 80 _ hb3
        have HO3 := Lib.hid (HO.out.fr0 hf3)
        clear hw3 hf3 hb3
        go_wp2_with (at_builtin; refine wpApp1C w3 (o := ⟨some 33, _, _, _, _, _⟩) rfl (.tmp 24) (.tmp 32) 39 rfl 38 i38 _ Tryz.underlying39 hi38 hz38 12 hs38 hb38 rfl u4 (lnTags (⟨nm, tags, fields, values, n, non, false⟩ : LnD) k).length (cellsOf (lnTags (⟨nm, tags, fields, values, n, non, false⟩ : LnD) k)) #[.int .i64 1, .string x1, .string x2, .int .i64 0, .string ⟨#[]⟩, .int .i64 0, .int .u64 0, .float .f64 0, .bool false, .int .i64 0, .int .i64 0, .bool false] rfl (by simp [Value.oneCell']) rfl rfl HO3.out.own (by have := HLN.out; omega) ?_; intro v5 w5 ho5 hf5 hb5; have HN5 := Lib.hid (HO3.out.next (p := lnTag (lnMore (⟨nm, tags, fields, values, n, non, false⟩ : LnD)) (x1, x2)) ho5 hf5 hb5); clear ho5 hf5 hb5)
        go_roundw
        case rel => exact ⟨k + 1, by omega, by go_num, Lib.hid (by rw [lnTags_succ _ _ _ HX.out]; exact HN5.out)⟩
        case measure => simp [intOf]; omega
      case neg =>
        have hO3 : OutC w1 wr u4 (lnFields (⟨nm, tags, fields, values, n, non, false⟩ : LnD) 0) := by
          have h9 := HO.out
          rw [show k = tags.length by omega] at h9
          have e0 : lnFields (⟨nm, tags, fields, values, n, non, false⟩ : LnD) 0 = lnTags (⟨nm, tags, fields, values, n, non, false⟩ : LnD) tags.length := by simp [lnFields]
          rw [e0]; exact h9
        have HO3 := Lib.hid hO3
        have e2 := cell_of_row wr w.heap.size 2 _ 43 _ (HO3.out.fr.blk HB1.out List.not_mem_nil)
        clear hO3
        obtain ⟨wa, hwa⟩ : ∃ x, x = wr := ⟨_, rfl⟩
        go_wp2_with fail
        go_loopw [4, 38] (fun v i wr => ∃ k : Nat, k ≤ fields.length ∧ i = .int .i64 k ∧ Hid (OutC w1 wr v (lnFields (⟨nm, tags, fields, values, n, non, false⟩ : LnD) k))) (fun _ i _ => fields.length - (intOf i).toNat)
        case atStart => exact ⟨0, Nat.zero_le _, rfl, HO3⟩
        case round =>
          obtain ⟨k, hk, rfl, HO⟩ := hrel
          by_cases hlt : k < fields.length
          case pos =>
            obtain ⟨x, hx⟩ : ∃ x, fields[k]? = some x := ⟨fields[k], List.getElem?_eq_getElem hlt⟩
            have hkv : k < values.length := by rw [HVN.out]; exact hlt
            obtain ⟨d, hd⟩ : ∃ d, values[k]? = some d := ⟨values[k], List.getElem?_eq_getElem hkv⟩
            have HX := Lib.hid hx
            have HD := Lib.hid hd
            have hfw := HF1.out.trans HO.out.fr
            have hg : ∃ g off, fa = some ⟨g, off, none⟩ ∧ wr.cell? ⟨g, off + k * 2, none⟩ = some (.string x.1) ∧ wr.cell? ⟨g, off + k * 2 + 1, none⟩ = some (.string x.2) := by
              rcases HFD.out with h | ⟨g, off, h1, h2⟩
              · rw [h] at hlt; simp at hlt
              · exact ⟨g, off, h1, hfw.cell (h2 k x hx).1 List.not_mem_nil, hfw.cell (h2 k x hx).2 List.not_mem_nil⟩
            have hgv : ∃ g off, va = some ⟨g, off, none⟩ ∧ ∀ j u, d.cells[j]? = some u → wr.cell? ⟨g, off + k * 6 + j, none⟩ = some u := by
              rcases HVL.out with h | ⟨g, off, h1, h2⟩
              · rw [h] at hkv; simp at hkv
              · exact ⟨g, off, h1, fun j u hu => hfw.cell (h2 k d hd j u hu) List.not_mem_nil⟩
            obtain ⟨g, off, rfl, c0, c1⟩ := hg
            obtain ⟨gv, offv, rfl, hcell⟩ := hgv
            have hln : (lnFields (⟨nm, tags, fields, values, n, non, false⟩ : LnD) k).length ≤ 3000 := by have := lnFields_len (⟨nm, tags, fields, values, n, non, false⟩ : LnD) k; simp only at this; omega
            have HLN := Lib.hid hln
            have HCELL := Lib.hid hcell
            have hvlen : (k : Int) < (values.length : Int) := by omega
            clear hx hd hln hfw hcell
            obtain ⟨x1, x2⟩ := x
            obtain ⟨kd, sd, nd, ud, fd, bd⟩ := d
            simp only at c0 c1
            go_upto_region 13 with fail
            obtain ⟨w4, hw4⟩ : ∃ z, z = wr.alloc (.cells #[.string x1, .string x2] 80) := ⟨_, rfl⟩
            rw [← hw4]
            have hf4 : Fr [] wr w4 := by rw [hw4]; exact (Fr.refl _ _).alloc _
            have hb4 : w4.heap[wr.heap.size]? = some (.cells #[.string x1, .string x2] 80 (0, 0)) := by rw [hw4]; exact heap_alloc_new _ _
            have p0 : w4.drew.cell? ⟨wr.heap.size, 0, none⟩ = some (.string x1) := cell_of_row w4 wr.heap.size 0 _ 80 _ hb4
            have e3 : w4.drew.cell? ⟨w.heap.size, 3, none⟩ = some (.slice (some ⟨gv, offv, none⟩) values.length vc) := cell_of_row w4 w.heap.size 3 _ 43 _ (hf4.blk (HO.out.fr.blk HB1.out List.not_mem_nil) List.not_mem_nil)
            have q0 : w4.drew.cell? ⟨gv, offv + k * 6, none⟩ = some (.int .i64 kd) := hf4.cell (HCELL.out 0 _ rfl) List.not_mem_nil
            have q1 : w4.drew.cell? ⟨gv, offv + k * 6 + 1, none⟩ = some (.string sd) := hf4.cell (HCELL.out 1 _ rfl) List.not_mem_nil
            have q2 : w4.drew.cell? ⟨gv, offv + k * 6 + 2, none⟩ = some (.int .i64 nd) := hf4.cell (HCELL.out 2 _ rfl) List.not_mem_nil
            have q3 : w4.drew.cell? ⟨gv, offv + k * 6 + 3, none⟩ = some (.int .u64 (ud : Int)) := hf4.cell (HCELL.out 3 _ rfl) List.not_mem_nil
            have q4 : w4.drew.cell? ⟨gv, offv + k * 6 + 4, none⟩ = some (.float .f64 fd) := hf4.cell (HCELL.out 4 _ rfl) List.not_mem_nil
            have q5 : w4.drew.cell? ⟨gv, offv + k * 6 + 5, none⟩ = some (.bool bd) := hf4.cell (HCELL.out 5 _ rfl) List.not_mem_nil
            have HO4 := Lib.hid (HO.out.fr0 hf4.drew)
            clear hw4 hf4 hb4 c0 c1
            refine wp_region_noPanic ?_
            go_region_law (first
              | (refine stepApp1C w4.drew (by rfl) _ _ _ (by rfl) 38 i38 _ Tryz.underlying39 hi38 hz38 12 hs38 hb38 rfl u4 (lnFields (⟨nm, tags, fields, values, n, non, false⟩ : LnD) k).length (cellsOf (lnFields (⟨nm, tags, fields, values, n, non, false⟩ : LnD) k)) #[.int .i64 2, .string x1, .string ⟨#[]⟩, .int .i64 kd, .string sd, .int .i64 nd, .int .u64 ud, .float .f64 fd, .bool bd, .int .i64 0, .int .i64 0, .bool false] rfl (by simp [Value.oneCell']) (by rfl) (by rfl) HO4.out.own (by have := HLN.out; omega) ?_; intro v5 w5 ho5 hf5 hb5; have HN5 := Lib.hid (HO4.out.next (p := lnField (lnMore (⟨nm, tags, fields, values, n, non, false⟩ : LnD)) ((x1, x2), ⟨kd, sd, nd, ud, fd, bd⟩)) ho5 hf5 hb5); clear ho5 hf5 hb5))
            all_goals
              refine NoPanic.normal ?_
              go_wp2_with fail
              go_roundw
              case rel => exact ⟨k + 1, by omega, by go_num, Lib.hid (by rw [lnFields_succ _ _ _ _ HX.out HD.out]; exact HN5.out)⟩
              case measure => simp [intOf]; omega
          case neg =>
            have hO6 : OutC w1 wr u4 (lnFields (⟨nm, tags, fields, values, n, non, false⟩ : LnD) fields.length) := by
              have h9 := HO.out
              rw [show k = fields.length by omega] at h9
              exact h9
            have HO6 := Lib.hid hO6
            have hb6 := HO6.out.fr.blk HB1.out List.not_mem_nil
            have e4 := cell_of_row wr w.heap.size 4 _ 43 _ hb6
            have e5 := cell_of_row wr w.heap.size 5 _ 43 _ hb6
            have hln : (lnFields (⟨nm, tags, fields, values, n, non, false⟩ : LnD) fields.length).length ≤ 3000 := by have := lnFields_len (⟨nm, tags, fields, values, n, non, false⟩ : LnD) fields.length; simp only at this; omega
            have HLN := Lib.hid hln
            clear hO6 hb6 hln
            go_wp2_with (at_builtin; refine wpApp1C wr (o := ⟨some 64, _, _, _, _, _⟩) rfl (.tmp 57) (.tmp 63) 39 rfl 38 i38 _ Tryz.underlying39 hi38 hz38 12 hs38 hb38 rfl u4 (lnFields (⟨nm, tags, fields, values, n, non, false⟩ : LnD) fields.length).length (cellsOf (lnFields (⟨nm, tags, fields, values, n, non, false⟩ : LnD) fields.length)) #[.int .i64 3, .string ⟨#[]⟩, .string ⟨#[]⟩, .int .i64 0, .string ⟨#[]⟩, .int .i64 0, .int .u64 0, .float .f64 0, .bool false, .int .i64 n, .int .i64 0, .bool non] rfl (by simp [Value.oneCell']) rfl rfl HO6.out.own (by have := HLN.out; omega) ?_; intro v5 w5 ho5 hf5 hb5; have HN5 := Lib.hid (HO6.out.next (p := lnEnd (⟨nm, tags, fields, values, n, non, false⟩ : LnD)) ho5 hf5 hb5); clear ho5 hf5 hb5)
            go_ret
            have h9 := HN5.out
            exact ⟨v5, rfl, ⟨h9.own, HF1.out.trans h9.fr, fun g hg => Nat.le_trans HF1.out.size (h9.new g hg)⟩⟩
  | true =>
    clear hm
    go_upto_region 5 with fail
    obtain ⟨w2, hw2⟩ : ∃ x, x = w1.alloc (.cells #[.int .i64 9, .string nm, .string ⟨#[]⟩, .int .i64 0, .string ⟨#[]⟩, .int .i64 0, .int .u64 0, .float .f64 0, .bool false, .int .i64 0, .int .i64 0, .bool false] 38) := ⟨_, rfl⟩
    rw [show (w1.alloc (.cells #[.int .i64 9, .string nm, .string ⟨#[]⟩, .int .i64 0, .string ⟨#[]⟩, .int .i64 0, .int .u64 0, .float .f64 0, .bool false, .int .i64 0, .int .i64 0, .bool false] 38)) = w2 from hw2.symm]
    have hf2 : Fr [] w1 w2 := by rw [hw2]; exact (Fr.refl _ _).alloc _
    have hb2 : w2.heap[w1.heap.size]? = some (.cells #[.int .i64 9, .string nm, .string ⟨#[]⟩, .int .i64 0, .string ⟨#[]⟩, .int .i64 0, .int .u64 0, .float .f64 0, .bool false, .int .i64 0, .int .i64 0, .bool false] 38 (0, 0)) := by rw [hw2]; exact heap_alloc_new _ _
    have hout : OutC w1 w2 (.slice (some ⟨w1.heap.size, 0, none⟩) 1 1) (lnTags (⟨nm, tags, fields, values, n, non, true⟩ : LnD) 0) := ⟨⟨rfl, by simp [cellsOf, lnTags, lnHead, PutD.cells, VD0, Value.oneCell'], .inr ⟨_, 1, rfl, _, _, hb2, fun j _ h => by omega, by simp, Nat.le_refl _, by simp [cellsOf, lnTags, lnHead, lnMore, PutD.cells, VD0]⟩⟩, hf2, fun g hg => by simp [Value.ownBlock] at hg; subst hg; exact Nat.le_refl _⟩
    have HO2 := Lib.hid hout
    have HB2 := Lib.hid (hf2.blk HB1.out List.not_mem_nil)
    have e1 := cell_of_row w2 w.heap.size 1 _ 43 _ HB2.out
    clear hw2 hf2 hb2 hout d0 d1 d6
    go_wp2_with fail
    go_loopw [4, 20] (fun v i wr => ∃ k : Nat, k ≤ tags.length ∧ i = .int .i64 k ∧ Hid (OutC w1 wr v (lnTags (⟨nm, tags, fields, values, n, non, true⟩ : LnD) k))) (fun _ i _ => tags.length - (intOf i).toNat)
    case atStart => exact ⟨0, Nat.zero_le _, rfl, HO2⟩
    case round =>
      obtain ⟨k, hk, rfl, HO⟩ := hrel
      by_cases hlt : k < tags.length
      case pos =>
        obtain ⟨x, hx⟩ : ∃ x, tags[k]? = some x := ⟨tags[k], List.getElem?_eq_getElem hlt⟩
        have HX := Lib.hid hx
        have hg : ∃ g off, ta = some ⟨g, off, none⟩ ∧ wr.cell? ⟨g, off + k * 2, none⟩ = some (.string x.1) ∧ wr.cell? ⟨g, off + k * 2 + 1, none⟩ = some (.string x.2) := by
          rcases HT.out with h | ⟨g, off, h1, h2⟩
          · rw [h] at hlt; simp at hlt
          · exact ⟨g, off, h1, (HF1.out.trans HO.out.fr).cell (h2 k x hx).1 List.not_mem_nil, (HF1.out.trans HO.out.fr).cell (h2 k x hx).2 List.not_mem_nil⟩
        obtain ⟨g, off, rfl, c0, c1⟩ := hg
        have hln : (lnTags (⟨nm, tags, fields, values, n, non, true⟩ : LnD) k).length ≤ 2000 := by have := lnTags_len (⟨nm, tags, fields, values, n, non, true⟩ : LnD) k; simp only at this; omega
        have HLN := Lib.hid hln
        clear hx hln
        obtain ⟨x1, x2⟩ := x
        simp only at c0 c1
        go_upto_region 8 with fail
        obtain ⟨w3, hw3⟩ : ∃ x, x = wr.alloc (.cells #[.string x1, .string x2] 80) := ⟨_, rfl⟩
        rw [← hw3]
        have hf3 : Fr [] wr w3 := by rw [hw3]; exact (Fr.refl _ _).alloc _
        have hb3 : w3.heap[wr.heap.size]? = some (.cells #[.string x1, .string x2] 80 (0, 0)) := by rw [hw3]; exact heap_alloc_new _ _
        have p0 : w3.cell? ⟨wr.heap.size, 0, none⟩ = _ := cell_of_row w3 wr.heap.size 0 _ 80 _ hb3
        have p1 : w3.cell? ⟨wr.heap.size, 1, none⟩ = _ := cell_of_row w3 wr.heap.size 1 _ 80 _ hb3
        have HO3 := Lib.hid (HO.out.fr0 hf3)
        clear hw3 hf3 hb3
        go_wp2_with (at_builtin; refine wpApp1C w3 (o := ⟨some 33, _, _, _, _, _⟩) rfl (.tmp 24) (.tmp 32) 39 rfl 38 i38 _ Tryz.underlying39 hi38 hz38 12 hs38 hb38 rfl u4 (lnTags (⟨nm, tags, fields, values, n, non, true⟩ : LnD) k).length (cellsOf (lnTags (⟨nm, tags, fields, values, n, non, true⟩ : LnD) k)) #[.int .i64 10, .string x1, .string x2, .int .i64 0, .string ⟨#[]⟩, .int .i64 0, .int .u64 0, .float .f64 0, .bool false, .int .i64 0, .int .i64 0, .bool false] rfl (by simp [Value.oneCell']) rfl rfl HO3.out.own (by have := HLN.out; omega) ?_; intro v5 w5 ho5 hf5 hb5; have HN5 := Lib.hid (HO3.out.next (p := lnTag (lnMore (⟨nm, tags, fields, values, n, non, true⟩ : LnD)) (x1, x2)) ho5 hf5 hb5); clear ho5 hf5 hb5)
        go_roundw
        case rel => exact ⟨k + 1, by omega, by go_num, Lib.hid (by rw [lnTags_succ _ _ _ HX.out]; exact HN5.out)⟩
        case measure => simp [intOf]; omega
      case neg =>
        have hO3 : OutC w1 wr u4 (lnFields (⟨nm, tags, fields, values, n, non, true⟩ : LnD) 0) := by
          have h9 := HO.out
          rw [show k = tags.length by omega] at h9
          have e0 : lnFields (⟨nm, tags, fields, values, n, non, true⟩ : LnD) 0 = lnTags (⟨nm, tags, fields, values, n, non, true⟩ : LnD) tags.length := by simp [lnFields]
          rw [e0]; exact h9
        have HO3 := Lib.hid hO3
        have e2 := cell_of_row wr w.heap.size 2 _ 43 _ (HO3.out.fr.blk HB1.out List.not_mem_nil)
        clear hO3
        obtain ⟨wa, hwa⟩ : ∃ x, x = wr := ⟨_, rfl⟩
        go_wp2_with fail
        go_loopw [4, 38] (fun v i wr => ∃ k : Nat, k ≤ fields.length ∧ i = .int .i64 k ∧ Hid (OutC w1 wr v (lnFields (⟨nm, tags, fields, values, n, non, true⟩ : LnD) k))) (fun _ i _ => fields.length - (intOf i).toNat)
        case atStart => exact ⟨0, Nat.zero_le _, rfl, HO3⟩
        case round =>
          obtain ⟨k, hk, rfl, HO⟩ := hrel
          by_cases hlt : k < fields.length
          case pos =>
            obtain ⟨x, hx⟩ : ∃ x, fields[k]? = some x := ⟨fields[k], List.getElem?_eq_getElem hlt⟩
            have hkv : k < values.length := by rw [HVN.out]; exact hlt
            obtain ⟨d, hd⟩ : ∃ d, values[k]? = some d := ⟨values[k], List.getElem?_eq_getElem hkv⟩
            have HX := Lib.hid hx
            have HD := Lib.hid hd
            have hfw := HF1.out.trans HO.out.fr
            have hg : ∃ g off, fa = some ⟨g, off, none⟩ ∧ wr.cell? ⟨g, off + k * 2, none⟩ = some (.string x.1) ∧ wr.cell? ⟨g, off + k * 2 + 1, none⟩ = some (.string x.2) := by
              rcases HFD.out with h | ⟨g, off, h1, h2⟩
              · rw [h] at hlt; simp at hlt
              · exact ⟨g, off, h1, hfw.cell (h2 k x hx).1 List.not_mem_nil, hfw.cell (h2 k x hx).2 List.not_mem_nil⟩
            have hgv : ∃ g off, va = some ⟨g, off, none⟩ ∧ ∀ j u, d.cells[j]? = some u → wr.cell? ⟨g, off + k * 6 + j, none⟩ = some u := by
              rcases HVL.out with h | ⟨g, off, h1, h2⟩
              · rw [h] at hkv; simp at hkv
              · exact ⟨g, off, h1, fun j u hu => hfw.cell (h2 k d hd j u hu) List.not_mem_nil⟩
            obtain ⟨g, off, rfl, c0, c1⟩ := hg
            obtain ⟨gv, offv, rfl, hcell⟩ := hgv
            have hln : (lnFields (⟨nm, tags, fields, values, n, non, true⟩ : LnD) k).length ≤ 3000 := by have := lnFields_len (⟨nm, tags, fields, values, n, non, true⟩ : LnD) k; simp only at this; omega
            have HLN := Lib.hid hln
            have HCELL := Lib.hid hcell
            have hvlen : (k : Int) < (values.length : Int) := by omega
            clear hx hd hln hfw hcell
            obtain ⟨x1, x2⟩ := x
            obtain ⟨kd, sd, nd, ud, fd, bd⟩ := d
            simp only at c0 c1
            go_upto_region 13 with fail
            obtain ⟨w4, hw4⟩ : ∃ z, z = wr.alloc (.cells #[.string x1, .string x2] 80) := ⟨_, rfl⟩
            rw [← hw4]
            have hf4 : Fr [] wr w4 := by rw [hw4]; exact (Fr.refl _ _).alloc _
            have hb4 : w4.heap[wr.heap.size]? = some (.cells #[.string x1, .string x2] 80 (0, 0)) := by rw [hw4]; exact heap_alloc_new _ _
            have p0 : w4.drew.cell? ⟨wr.heap.size, 0, none⟩ = some (.string x1) := cell_of_row w4 wr.heap.size 0 _ 80 _ hb4
            have e3 : w4.drew.cell? ⟨w.heap.size, 3, none⟩ = some (.slice (some ⟨gv, offv, none⟩) values.length vc) := cell_of_row w4 w.heap.size 3 _ 43 _ (hf4.blk (HO.out.fr.blk HB1.out List.not_mem_nil) List.not_mem_nil)
            have q0 : w4.drew.cell? ⟨gv, offv + k * 6, none⟩ = some (.int .i64 kd) := hf4.cell (HCELL.out 0 _ rfl) List.not_mem_nil
            have q1 : w4.drew.cell? ⟨gv, offv + k * 6 + 1, none⟩ = some (.string sd) := hf4.cell (HCELL.out 1 _ rfl) List.not_mem_nil
            have q2 : w4.drew.cell? ⟨gv, offv + k * 6 + 2, none⟩ = some (.int .i64 nd) := hf4.cell (HCELL.out 2 _ rfl) List.not_mem_nil
            have q3 : w4.drew.cell? ⟨gv, offv + k * 6 + 3, none⟩ = some (.int .u64 (ud : Int)) := hf4.cell (HCELL.out 3 _ rfl) List.not_mem_nil
            have q4 : w4.drew.cell? ⟨gv, offv + k * 6 + 4, none⟩ = some (.float .f64 fd) := hf4.cell (HCELL.out 4 _ rfl) List.not_mem_nil
            have q5 : w4.drew.cell? ⟨gv, offv + k * 6 + 5, none⟩ = some (.bool bd) := hf4.cell (HCELL.out 5 _ rfl) List.not_mem_nil
            have HO4 := Lib.hid (HO.out.fr0 hf4.drew)
            clear hw4 hf4 hb4 c0 c1
            refine wp_region_noPanic ?_
            go_region_law (first
              | (refine stepApp1C w4.drew (by rfl) _ _ _ (by rfl) 38 i38 _ Tryz.underlying39 hi38 hz38 12 hs38 hb38 rfl u4 (lnFields (⟨nm, tags, fields, values, n, non, true⟩ : LnD) k).length (cellsOf (lnFields (⟨nm, tags, fields, values, n, non, true⟩ : LnD) k)) #[.int .i64 11, .string x1, .string ⟨#[]⟩, .int .i64 kd, .string sd, .int .i64 nd, .int .u64 ud, .float .f64 fd, .bool bd, .int .i64 0, .int .i64 0, .bool false] rfl (by simp [Value.oneCell']) (by rfl) (by rfl) HO4.out.own (by have := HLN.out; omega) ?_; intro v5 w5 ho5 hf5 hb5; have HN5 := Lib.hid (HO4.out.next (p := lnField (lnMore (⟨nm, tags, fields, values, n, non, true⟩ : LnD)) ((x1, x2), ⟨kd, sd, nd, ud, fd, bd⟩)) ho5 hf5 hb5); clear ho5 hf5 hb5))
            all_goals
              refine NoPanic.normal ?_
              go_wp2_with fail
              go_roundw
              case rel => exact ⟨k + 1, by omega, by go_num, Lib.hid (by rw [lnFields_succ _ _ _ _ HX.out HD.out]; exact HN5.out)⟩
              case measure => simp [intOf]; omega
          case neg =>
            have hO6 : OutC w1 wr u4 (lnFields (⟨nm, tags, fields, values, n, non, true⟩ : LnD) fields.length) := by
              have h9 := HO.out
              rw [show k = fields.length by omega] at h9
              exact h9
            have HO6 := Lib.hid hO6
            have hb6 := HO6.out.fr.blk HB1.out List.not_mem_nil
            have e4 := cell_of_row wr w.heap.size 4 _ 43 _ hb6
            have e5 := cell_of_row wr w.heap.size 5 _ 43 _ hb6
            have hln : (lnFields (⟨nm, tags, fields, values, n, non, true⟩ : LnD) fields.length).length ≤ 3000 := by have := lnFields_len (⟨nm, tags, fields, values, n, non, true⟩ : LnD) fields.length; simp only at this; omega
            have HLN := Lib.hid hln
            clear hO6 hb6 hln
            go_wp2_with (at_builtin; refine wpApp1C wr (o := ⟨some 64, _, _, _, _, _⟩) rfl (.tmp 57) (.tmp 63) 39 rfl 38 i38 _ Tryz.underlying39 hi38 hz38 12 hs38 hb38 rfl u4 (lnFields (⟨nm, tags, fields, values, n, non, true⟩ : LnD) fields.length).length (cellsOf (lnFields (⟨nm, tags, fields, values, n, non, true⟩ : LnD) fields.length)) #[.int .i64 3, .string ⟨#[]⟩, .string ⟨#[]⟩, .int .i64 0, .string ⟨#[]⟩, .int .i64 0, .int .u64 0, .float .f64 0, .bool false, .int .i64 n, .int .i64 0, .bool non] rfl (by simp [Value.oneCell']) rfl rfl HO6.out.own (by have := HLN.out; omega) ?_; intro v5 w5 ho5 hf5 hb5; have HN5 := Lib.hid (HO6.out.next (p := lnEnd (⟨nm, tags, fields, values, n, non, true⟩ : LnD)) ho5 hf5 hb5); clear ho5 hf5 hb5)
            go_ret
            have h9 := HN5.out
            exact ⟨v5, rfl, ⟨h9.own, HF1.out.trans h9.fr, fun g hg => Nat.le_trans HF1.out.size (h9.new g hg)⟩⟩
end Go.Proofs.YtaaogjhaokaggaaGreatDoor
