import Derived.Test.YtaaogjhaokaggaaGreatDoorEscB
import Derived.Test.YtaaogjhaokaggaaGreatDoorLawsT
namespace Go.Proofs.YtaaogjhaokaggaaGreatDoor
open Go.RowKit

/-- An escaper at the head of block b. -/
structure EscAt (w : World) (b : Nat) (T : UInt8 → UInt8) : Prop where
  tab : ∀ c : UInt8, w.cell? ⟨b, c.toNat, none⟩ = some (.int .u8 ((T c).toNat : Int))
  set : ∃ es : ByteArray, w.cell? ⟨b, 512, none⟩ = some (.string es) ∧ es.size ≤ 10 ∧ ∀ l : List UInt8, l.length + sumCnt es.data.toList l = (esc T l).length
theorem EscAt.fr {S : List Nat} {w w' : World} {b : Nat} {T : UInt8 → UInt8} (h : EscAt w b T) (f : Fr S w w') (hb : b ∉ S) : EscAt w' b T :=
  ⟨fun c => f.cell (h.tab c) hb, by obtain ⟨es, h1, h2⟩ := h.set; exact ⟨es, f.cell h1 hb, h2⟩⟩

theorem esc_cons (T : UInt8 → UInt8) (c : UInt8) (l : List UInt8) : esc T (c :: l) = escB T c ++ esc T l := by simp [esc]
theorem esc_ge (T : UInt8 → UInt8) (l : List UInt8) : l.length ≤ (esc T l).length := by
  induction l with
  | nil => simp
  | cons d l ih =>
    have : 1 ≤ (escB T d).length := by unfold escB; split <;> simp
    rw [esc_cons, List.length_append, List.length_cons]
    omega
theorem esc_same (T : UInt8 → UInt8) (l : List UInt8) (h : (esc T l).length = l.length) : esc T l = l := by
  induction l with
  | nil => rfl
  | cons c l ih =>
    have h1 := esc_ge T l
    rw [esc_cons, List.length_append, List.length_cons] at h
    rw [esc_cons]
    by_cases hz : T c = 0
    · have e1 : escB T c = [c] := by simp [escB, hz]
      rw [e1] at h ⊢
      rw [ih (by simp only [List.length_singleton] at h; omega)]; rfl
    · have e1 : (escB T c).length = 2 := by simp [escB, hz]
      omega

set_option maxHeartbeats 1000000 in
theorem appendEscaped_same (T : UInt8 → UInt8) (b : Nat) (s : ByteArray) (l : List UInt8) (buf : Value) (w : World) (hs : s.size ≤ 1000000) (hl : l.length ≤ 1000000000) (hE : EscAt w b T) (hB : Own w 5 buf l)
    (hsame : (esc T s.data.toList).length = s.size) :
    Calls Tryz.prog 73 #[.pointer (some ⟨b, 0, none⟩), buf, .string s] w (App w buf (l ++ esc T s.data.toList)) := by
  obtain ⟨es, he1, he2, he3⟩ := hE.set
  have hlen := he3 s.data.toList
  have e0 : s.data.toList.length = s.size := by simp
  rw [hsame, e0] at hlen
  have hres := esc_same T s.data.toList (by rw [hsame, e0])
  rw [hres]
  have HL := Lib.hid hlen; clear hlen he3 hres hsame
  have hsl : s.data.toList.length ≤ 1000000 := by omega
  clear e0
  have HB := Lib.hid hB; clear hB
  have HE := Lib.hid hE; clear hE
  go_enter Tryz.func73, Tryz.ntmps73
  go_wp2_with (first
    | (go_at_call 109; refine (escLen_any b s es _ hs he2 he1).mono ?_; rintro e w' ⟨rfl, rfl⟩; rw [HL.out])
    | (at_builtin; refine wpApp _ rfl (.tmp 16) (.tmp 17) 9 rfl buf l s.data.toList (.string s) rfl rfl HB.out (srcStr _ s) (by omega) ?_; intro v' w1 ho hf hb))
  go_ret
  exact ⟨v', rfl, ho, hf, hb.imp_right fun h => ⟨_, h, Nat.le_refl _⟩⟩

theorem Wrote.row {w' : World} {e : TypeId} {g cap : Nat} {l m : List UInt8} {cur : Array Value} {fr : Nat × Nat} (h2 : ∀ j, j < cur.size → ¬ (fr.1 ≤ j ∧ j < fr.2)) (h3 : cap ≤ cur.size) (h5 : cap ≤ maxLen) (h6 : cur.toList.take l.length = bvs l)
    (hw : Wrote w' e g l.length cur fr m) (hm : l.length + m.length ≤ cap) : Row w' e g cap (l ++ m) := by
  obtain ⟨cur', k1, k2, k3⟩ := hw
  refine ⟨cur', fr, k1, by rw [k2]; exact h2, by omega, by simpa using hm, h5, ?_⟩
  refine take_bvs (n := l.length + m.length) (fun i hi => ?_) (by simp) (by omega)
  rw [k3 i, bvs_append, List.getElem?_append, bvs_length]
  by_cases a : i < l.length
  · rw [if_neg (by omega), if_pos a]
    have h7 := congrArg (fun x => x[i]?) h6
    simp only [List.getElem?_take, if_pos a] at h7
    rw [← h7]; simp
  · rw [if_neg a, if_pos (by omega)]

set_option maxHeartbeats 1000000 in
theorem appendEscaped_room (T : UInt8 → UInt8) (b : Nat) (s : ByteArray) (l : List UInt8) (g cap : Nat) (w : World) (hs : s.size ≤ 1000000) (hl : l.length ≤ 1000000000) (hE : EscAt w b T) (hR : Row w 5 g cap l) (hbg : b ≠ g)
    (hmore : s.size < (esc T s.data.toList).length) (hroom : (esc T s.data.toList).length ≤ cap - l.length) :
    Calls Tryz.prog 73 #[.pointer (some ⟨b, 0, none⟩), .slice (some ⟨g, 0, none⟩) l.length cap, .string s] w (App w (.slice (some ⟨g, 0, none⟩) l.length cap) (l ++ esc T s.data.toList)) := by
  obtain ⟨es, he1, he2, he3⟩ := hE.set
  have hlen := he3 s.data.toList
  have e0 : s.data.toList.length = s.size := by simp
  rw [e0] at hlen
  obtain ⟨cur, fr, h1, h2, h3, h4, h5, h6⟩ := hR
  have hel := esc_len T s.data.toList
  rw [e0] at hel
  obtain ⟨N, hN⟩ : ∃ N, N = (esc T s.data.toList).length := ⟨_, rfl⟩
  rw [← hN] at hlen hmore hroom hel
  have hfin : ∀ w', Wrote w' 5 g l.length cur fr (esc T s.data.toList) → Fr [g] w w' → App w (.slice (some ⟨g, 0, none⟩) l.length cap) (l ++ esc T s.data.toList) (.returned (.slice (some ⟨g, 0, none⟩) (l.length + N) cap)) w' :=
    fun w' hw hf => ⟨_, rfl, .inr ⟨g, cap, by rw [hN, List.length_append], Wrote.row h2 h3 h5 h6 hw (by omega)⟩, hf, .inl rfl⟩
  have HN := Lib.hid hN; clear hN
  have HL := Lib.hid hlen; clear hlen he3 e0
  have HE := Lib.hid hE; clear hE
  have H2 := Lib.hid h2; clear h2
  have H1 := Lib.hid h1; clear h1 h6
  have HF := Lib.hid hfin; clear hfin
  have hcc : cap ≤ 9223372036854775807 := by unfold maxLen at h5; omega
  have hcl : l.length < cap := by omega
  have hne : ¬ (N : Int) = (s.size : Int) := by omega
  have hz1 : ¬ ((cap : Int) - (l.length : Int) < (N : Int)) := by omega
  have hn1 : ((l.length : Int) + (N : Int)).toNat = l.length + N := by omega
  have hn2 : ((l.length : Int) + (N : Int)).toNat - l.length = N := by omega
  go_enter Tryz.func73, Tryz.ntmps73
  go_wp2_with (first
    | (go_at_call 109; refine (escLen_any b s es _ hs he2 he1).mono ?_; rintro e w' ⟨rfl, rfl⟩; rw [HL.out])
    | (go_at_call 110; refine (escape_any T b g l.length N _ s 5 cur fr _ hs HE.out.tab hbg H1.out H2.out HN.out (by omega)).mono ?_; rintro e w1 ⟨rfl, hw1, hf1⟩))
  go_ret
  exact HF.out _ hw1 hf1

set_option maxHeartbeats 1000000 in
theorem appendEscaped_grow (T : UInt8 → UInt8) (b : Nat) (s : ByteArray) (l : List UInt8) (ad : Option Addr) (cap : Nat) (w : World) (hs : s.size ≤ 1000000) (hl : l.length ≤ 1000000000) (hE : EscAt w b T) (hB : Own w 5 (.slice ad l.length cap) l)
    (hcap : l.length ≤ cap ∧ cap ≤ maxLen) (hmore : s.size < (esc T s.data.toList).length) (hroom : cap - l.length < (esc T s.data.toList).length) :
    Calls Tryz.prog 73 #[.pointer (some ⟨b, 0, none⟩), .slice ad l.length cap, .string s] w (App w (.slice ad l.length cap) (l ++ esc T s.data.toList)) := by
  obtain ⟨es, he1, he2, he3⟩ := hE.set
  have hbl : b < w.heap.size := World.block_lt_of_cell? w _ he1
  have hlen := he3 s.data.toList
  have e0 : s.data.toList.length = s.size := by simp
  rw [e0] at hlen
  have hel := esc_len T s.data.toList
  rw [e0] at hel
  obtain ⟨N, hN⟩ : ∃ N, N = (esc T s.data.toList).length := ⟨_, rfl⟩
  rw [← hN] at hlen hmore hroom hel
  obtain ⟨hlc, hcm⟩ := hcap
  have HN := Lib.hid hN; clear hN
  have HL := Lib.hid hlen; clear hlen he3 e0
  have HE := Lib.hid hE; clear hE
  have HB := Lib.hid hB; clear hB
  have hcc : cap ≤ 9223372036854775807 := by unfold maxLen at hcm; omega
  have hne : ¬ (N : Int) = (s.size : Int) := by omega
  have hz1 : ((cap : Int) - (l.length : Int) < (N : Int)) := by omega
  have hn1 : ((l.length : Int) + (N : Int)).toNat = l.length + N := by omega
  have hn2 : ((l.length : Int) + (N : Int)).toNat - l.length = N := by omega
  go_enter Tryz.func73, Tryz.ntmps73
  go_upto_region 5 with (go_at_call 109; refine (escLen_any b s es _ hs he2 he1).mono ?_; rintro e w' ⟨rfl, rfl⟩; rw [HL.out])
  go_upto_region 6 with (at_make; refine wpMake _ rfl (.tmp 27) (.tmp 31) rfl _ _ l.length (l.length + N) rfl rfl rfl (by omega) (by omega) (by omega) ?_; intro w1 hh1 hf1)
  go_wp2_with (with_reducible refine wpCopy w1 rfl (.tmp 33) (.tmp 34) rfl _ (l.length + N) (.slice ad l.length cap) l rfl rfl (HB.out.fr hf1 (by simp)) _ hh1 (by rw [zbytes_size]) (by omega) (by unfold maxLen; omega) ?_; intro w2 hr2 hh2 hf2)
  obtain ⟨cur, fr, k1, k2, k3, k4, k5, k6⟩ := hr2
  have hE2 : EscAt w2 b T := (HE.out.fr hf1 (by simp)).fr hf2 (by simp; omega)
  have hfin : ∀ w3, Wrote w3 5 w'.heap.size l.length cur fr (esc T s.data.toList) → Fr [w'.heap.size] w2 w3 → App w' (.slice ad l.length cap) (l ++ esc T s.data.toList) (.returned (.slice (some ⟨w'.heap.size, 0, none⟩) (l.length + N) (l.length + N))) w3 :=
    fun w3 hw hf => ⟨_, rfl, .inr ⟨w'.heap.size, l.length + N, by rw [HN.out, List.length_append], Wrote.row k2 k3 k5 k6 hw (by have := HN.out; omega)⟩,
      (((hf1.sub (T := (Value.slice ad l.length cap).ownBlock.toList) (by simp)).step hf2 (by simp)).step hf (by simp)), .inr ⟨_, rfl, Nat.le_refl _⟩⟩
  have HF := Lib.hid hfin; clear hfin
  have K1 := Lib.hid k1; clear k1 k6 hh1
  have K2 := Lib.hid k2; clear k2 hh2
  refine (escape_any T b _ l.length N _ s 5 cur fr _ hs hE2.tab (by omega) K1.out K2.out HN.out (by omega)).mono ?_
  rintro e w3 ⟨rfl, hw3, hf3⟩
  have HW3 := Lib.hid hw3; clear hw3
  go_wp2
  go_ret
  exact HF.out _ HW3.out hf3

/-- appendEscaped, WHOLE. -/
theorem appendEscaped_any (T : UInt8 → UInt8) (b : Nat) (s : ByteArray) (l : List UInt8) (buf : Value) (w : World) (hs : s.size ≤ 1000000) (hl : l.length ≤ 1000000000) (hE : EscAt w b T) (hB : Own w 5 buf l)
    (hne : ∀ g, buf.ownBlock = some g → b ≠ g) :
    Calls Tryz.prog 73 #[.pointer (some ⟨b, 0, none⟩), buf, .string s] w (App w buf (l ++ esc T s.data.toList)) := by
  have hge := esc_ge T s.data.toList
  have e0 : s.data.toList.length = s.size := by simp
  by_cases h : (esc T s.data.toList).length = s.size
  · exact appendEscaped_same T b s l buf w hs hl hE hB h
  · rcases hB with ⟨rfl, rfl⟩ | ⟨g, cap, rfl, hR⟩
    · exact appendEscaped_grow T b s [] none 0 w hs (by simp) hE (.inl ⟨rfl, rfl⟩) ⟨Nat.le_refl _, Nat.zero_le _⟩ (by omega) (by simp; omega)
    · have hR' := hR
      obtain ⟨cur, fr, h1, h2, h3, h4, h5, h6⟩ := hR'
      by_cases hroom : (esc T s.data.toList).length ≤ cap - l.length
      · exact appendEscaped_room T b s l g cap w hs hl hE hR (hne g rfl) (by omega) hroom
      · exact appendEscaped_grow T b s l _ cap w hs hl hE (.inr ⟨g, cap, rfl, hR⟩) ⟨h4, h5⟩ (by omega) (by omega)

end Go.Proofs.YtaaogjhaokaggaaGreatDoor
