/-
  The walk of laws.FnAny: for every input it returns true and writes nothing that was there.
-/
import Derived.Test.YtkfkbbablgbfoaaWalk6
import Derived.Test.YtkfkbbablgbfoaaRead7
import Derived.Test.YtkfkbbablgbfoaaEnds
namespace Go.Proofs.Ytkfkbbablgbfoaa
open Go.RowKit
set_option linter.unusedVariables false
set_option maxHeartbeats 1000000
set_option maxRecDepth 20000
theorem lenOk_bound {S : Nat → Int} {n si base lim si' L : Nat} (h : LenOk S n si base lim si' L) (h1 : si ≤ n) : L ≤ lim + 255 * n + 255 ∧ si ≤ si' := by
  rcases h with ⟨h2, h3, h4⟩ | ⟨h2, k, e, hE, h3, h4⟩
  · omega
  · have := hE.2.2.1
    have := hE.2.2.2
    omega
/-- what stands in sequences that were read -/
theorem read_facts {S : Nat → Int} {n si : Nat} {l : List PStep} {st : Nat} (hS : ∀ i, 0 ≤ S i ∧ S i ≤ 255) (hn : n ≤ 1000) (h : Read S n si l st) :
    si ≤ n ∧ l.length + si ≤ n ∧ (st = 0 ∨ st = 1 ∨ st = 2) ∧ (st = 0 → 0 < l.length) ∧ (st ≠ 2 → si < n) ∧ ∀ s ∈ l, s.lits.length ≤ 1000000 ∧ s.len ≤ 1000000 ∧ s.far < 65536 ∧ (0 < s.len → 0 < s.far) := by
  induction h with
  | over => exact ⟨Nat.le_refl _, by simp, by omega, by omega, by omega, fun s hs => by cases hs⟩
  | litBad b h1 => exact ⟨by omega, by simp; omega, by omega, by omega, fun _ => h1, fun s hs => by cases hs⟩
  | openEnd b si' L h1 => exact ⟨by omega, by simp; omega, by omega, by omega, fun _ => h1, fun s hs => by cases hs⟩
  | @last si b si' L h1 h2 h3 h4 h5 =>
    refine ⟨by omega, by simp; omega, by omega, by simp, fun _ => h1, fun s hs => ?_⟩
    obtain rfl := List.mem_singleton.1 hs
    exact ⟨by simp only [slit_length]; omega, by simp, by simp, by simp⟩
  | matchBad b si' L h1 => exact ⟨by omega, by simp; omega, by omega, by omega, fun _ => h1, fun s hs => by cases hs⟩
  | @next si rest st b si' L si2 o m h1 h2 h3 h4 h5 h6 h7 h8 ih =>
    obtain ⟨i1, i2, i3, i4, i5, i6⟩ := ih
    have b1 := lenOk_bound h3 (by omega)
    have b2 := lenOk_bound h7 (by omega)
    have s1 := hS (si' + L)
    have s2 := hS (si' + L + 1)
    refine ⟨by omega, by simp; omega, i3, by simp, fun _ => h1, fun s hs => ?_⟩
    rcases List.mem_cons.1 hs with rfl | hs
    · exact ⟨by simp only [slit_length]; omega, by simp only; omega, by simp only; omega, fun _ => h6⟩
    · exact i6 s hs
theorem told_length {D : Nat → Int} {dn : Nat} : ∀ (l : List PStep) (out y : List Int), told D dn l out = some y → y.length = out.length + tot l
  | [], out, y, h => by
    rw [told] at h
    cases h
    rfl
  | s :: rest, out, y, h => by
    rw [told] at h
    by_cases hb : 0 < s.len ∧ dn + (out ++ s.lits).length < s.far
    · rw [if_pos hb] at h
      cases h
    · rw [if_neg hb] at h
      rw [told_length rest _ y h, repeated_length, tot]
      simp
      omega
theorem told_plain {D : Nat → Int} {dn most : Nat} : ∀ (l : List PStep) (out y : List Int), plain D dn most l out = some y → told D dn l out = some y
  | [], out, y, h => h
  | s :: rest, out, y, h => by
    rw [plain] at h
    rw [told]
    by_cases hb : (0 < s.len ∧ dn + (out ++ s.lits).length < s.far) ∨ most < (out ++ s.lits).length + s.len
    · rw [if_pos hb] at h
      cases h
    · rw [if_neg hb] at h
      rw [if_neg (fun h1 => hb (.inl h1))]
      exact told_plain rest _ y h
theorem fits_tot {N : Nat} : ∀ (l : List PStep) (d : Nat), d + tot l + 16 ≤ N → Fits N l d
  | [], d, h => trivial
  | [s], d, h => by simp only [tot] at h; simp only [Fits]; omega
  | s :: s2 :: rest, d, h => by
    rw [tot] at h
    exact ⟨by omega, by omega, fits_tot (s2 :: rest) _ (by omega)⟩
theorem tot_bound : ∀ (l : List PStep), (∀ s ∈ l, s.lits.length ≤ 1000000 ∧ s.len ≤ 1000000) → tot l ≤ l.length * 2000000
  | [], _ => by simp [tot]
  | s :: rest, h => by
    have h1 := tot_bound rest (fun t ht => h t (List.mem_cons_of_mem _ ht))
    have h2 := h s (List.mem_cons_self ..)
    rw [tot, List.length_cons]
    omega
/-- what impl.Uncompress does with what was read: with what is told, or not at all -/
theorem any_law {S : Nat → Int} {n : Nat} {l : List PStep} {st : Nat} (h : Read S n 0 l st) (h2 : st ≠ 2) (ht : tot l ≤ 32768) :
    (∃ y, st = 0 ∧ plain (fun _ => 0) 0 65536 l [] = some y ∧ Dec S (fun _ => 0) n 0 65536 0 [] (some y)) ∨ ((st ≠ 0 ∨ plain (fun _ => 0) 0 65536 l [] = none) ∧ Dec S (fun _ => 0) n 0 65536 0 [] none) := by
  cases hp : plain (fun _ => 0) 0 65536 l [] with
  | some y =>
    by_cases h0 : st = 0
    · exact .inl ⟨y, h0, rfl, dec_good h h0 (fits_tot l 0 (by omega)) (told_plain l [] y hp)⟩
    · refine .inr ⟨.inl h0, ?_⟩
      rcases dec_any (D := fun _ => 0) (dn := 0) (N := 65536) h (out := []) h2 (by simp) with h3 | ⟨x, h3, _⟩
      · exact h3
      · exact absurd h3 h0
  | none =>
    refine .inr ⟨.inr rfl, ?_⟩
    rcases dec_any (D := fun _ => 0) (dn := 0) (N := 65536) h (out := []) h2 (by simp) with h3 | ⟨x, h3, h4, h5, _⟩
    · exact h3
    · have h6 := told_length l [] x h5
      have h7 := (plain_told (most := 65536) l [] x h5 (by simp at h6; omega)).1
      rw [hp] at h7
      cases h7
theorem walk3 (a : Option Addr) (n c : Nat) (S : Nat → Int) (w : World) (h0 : Mem w .u8 a n c S) (hS : ∀ i, 0 ≤ S i ∧ S i ≤ 255) :
    Calls Try.prog 3 #[.slice a n c] w fun e w' => e = .returned (.bool true) ∧ Below w.heap.size w w' := by
  have HM := Lib.hid h0
  have HS := Lib.hid hS
  have hl0 : n ≤ 9223372036854775807 := Nat.le_trans h0.1 h0.2.1
  clear h0 hS
  by_cases c1 : 2147483647 < n
  · have d1 : (2147483647 : Int) < (n : Int) := by omega
    go_enter Try.func3, Try.ntmps3
    go_wp2
    go_ret
    exact ⟨rfl, Below.refl _ _⟩
  have d1 : ¬ (2147483647 : Int) < (n : Int) := by omega
  by_cases c3 : 1000 < n
  · have d3 : (1000 : Int) < (n : Int) := by omega
    go_enter Try.func3, Try.ntmps3
    go_wp2
    go_ret
    exact ⟨rfl, Below.refl _ _⟩
  have d3 : ¬ (1000 : Int) < (n : Int) := by omega
  go_enter Try.func3, Try.ntmps3
  go_wp2_with (
    go_at_call 7
    refine Calls.mono (steps_told a n c S w HM.out HS.out (by omega)) ?_
    rintro e w1 ⟨l, st, g, cap, hr, rfl, hcap, hm, hB⟩
    have HR := Lib.hid hr
    have HL := Lib.hid hm
    have HB := Lib.hid hB
    have hst := (read_facts HS.out (by omega) hr).2.2.1
    clear hr hm hB
    rcases hst with rfl | rfl | rfl)
  · go_wp2_with (
      go_at_call 8
      refine Calls.mono (ends8 g cap l w1 HL.out hcap (by have h5 := (read_facts HS.out (by omega) HR.out).2.1; omega) ((read_facts HS.out (by omega) HR.out).2.2.2.1 rfl) (fun i s hs => by have h5 := (read_facts HS.out (by omega) HR.out).2.2.2.2.2 s (List.mem_of_getElem? hs); exact ⟨h5.1, h5.2.1⟩)) ?_
      rintro e w2 ⟨bb, rfl, hB2⟩
      have HB2 := Lib.hid (HB.out.trans (hB2.mono HB.out.size))
      have HL2 := Lib.hid (fun i s hs => (HL.out i s hs).below hB2)
      clear hB2
      cases bb)
    · go_ret
      exact ⟨rfl, HB2.out⟩
    · go_loopw [5, 36] (fun x p wr => ∃ (i t : Nat), i ≤ l.length ∧ x = .int .i64 (t : Int) ∧ p = .int .i64 (i : Int) ∧ Hid (t + tot (l.drop i) = tot l) ∧ Hid (Below w2.heap.size w2 wr))
        (fun _ p _ => match p with | .int _ r => l.length - r.toNat | _ => 0)
      case atStart => exact ⟨0, 0, by omega, rfl, rfl, Lib.hid (by simp), Lib.hid (Below.refl _ _)⟩
      case round =>
        obtain ⟨i, t, hi, rfl, rfl, HT, HB3⟩ := hrel
        have hF := read_facts HS.out (by omega) HR.out
        have hll : l.length ≤ 1000 := by have h5 := hF.2.1; omega
        have htb := tot_bound l (fun s hs => ⟨(hF.2.2.2.2.2 s hs).1, (hF.2.2.2.2.2 s hs).2.1⟩)
        have ht0 := HT.out
        have HF := Lib.hid hF
        clear hF
        by_cases hil : i < l.length
        · have l1 : (i : Int) < (l.length : Int) := by omega
          obtain ⟨a0, k0, c0', c1', c2', hM⟩ := HL2.out i l[i] (by simp [hil])
          have c0 := cell_below HB3.out c0'
          have c1 := cell_below HB3.out c1'
          have c2 := cell_below HB3.out c2'
          clear c0' c1' c2' hM
          obtain ⟨hb1, hb2, _⟩ := HF.out.2.2.2.2.2 l[i] (List.getElem_mem hil)
          have HD := Lib.hid (List.drop_eq_getElem_cons hil)
          have htc := HT.out
          rw [HD.out, tot] at htc
          generalize l[i] = s at c0 c1 c2 hb1 hb2 htc
          have HTC := Lib.hid htc
          have htt : t ≤ 2100000000 := by omega
          clear htc ht0
          go_wp2
          refine ⟨⟨i + 1, t + (s.lits.length + s.len), by omega, by simp, rfl, Lib.hid (by have h5 := HTC.out; omega), Lib.hid (HB3.out.alloc HB3.out.size _)⟩, ?_⟩
          show l.length - ((i : Int) + 1).toNat < l.length - (i : Int).toNat
          omega
        · obtain rfl : i = l.length := by omega
          have l1 : ¬ (l.length : Int) < (l.length : Int) := by omega
          rw [List.drop_length, tot] at ht0
          have HB4 := Lib.hid (HB2.out.trans (HB3.out.mono HB2.out.size))
          have HL4 := Lib.hid (fun i s hs => (HL2.out i s hs).below HB3.out)
          by_cases hbig : 32768 < t
          · have hb1 : (32768 : Int) < (t : Int) := by omega
            go_wp2
            go_ret
            exact ⟨rfl, HB4.out⟩
          · have hb1 : ¬ (32768 : Int) < (t : Int) := by omega
            have hn0 := HF.out.2.2.2.2.1 (by omega)
            have HSTEP := Lib.hid (fun (i : Nat) (s : PStep) (hs : l[i]? = some s) => HF.out.2.2.2.2.2 s (List.mem_of_getElem? hs))
            have hlaw := any_law HR.out (by omega) (by omega)
            clear ht0
            rcases hlaw with ⟨y, h0, hpl, hd⟩ | ⟨hcase, hd⟩
            · clear h0
              go_wp2_with (first
                | (go_at_call 9
                   refine Calls.mono (plain9 g cap l [] none 0 65536 wr HL4.out (memL_nil _) hcap (by omega) (by simp) (by omega) HSTEP.out) ?_
                   rintro e w5 ⟨hb5, hr2⟩
                   rw [nil_getD, List.length_nil, hpl] at hr2
                   obtain ⟨ya, yc, rfl, hym⟩ := hr2
                   have HYM := Lib.hid hym
                   have HB5 := Lib.hid (HB4.out.trans (hb5.mono HB4.out.size))
                   clear hb5 hym)
                | (go_at_call 10
                   refine Calls.mono (c10 (N := 65536) (HM.out.below HB5.out) HS.out hn0 (by omega) (by omega) hd) ?_
                   rintro e w6 ⟨oa, oc, rfl, hom, hb6⟩
                   have HOM := Lib.hid hom
                   have HYM6 := Lib.hid (HYM.out.below hb6)
                   have HB6 := Lib.hid (HB5.out.trans (hb6.mono HB5.out.size))
                   clear hb6 hom)
                | (go_at_call 11
                   refine Calls.mono (is_same y rfl HOM.out HYM6.out) ?_
                   rintro e w7 ⟨rfl, rfl⟩))
              go_ret
              exact ⟨rfl, HB6.out⟩
            · have hpl := hcase.resolve_left (fun h => h rfl)
              clear hcase
              go_wp2_with (first
                | (go_at_call 9
                   refine Calls.mono (plain9 g cap l [] none 0 65536 wr HL4.out (memL_nil _) hcap (by omega) (by simp) (by omega) HSTEP.out) ?_
                   rintro e w5 ⟨hb5, hr2⟩
                   rw [nil_getD, List.length_nil, hpl] at hr2
                   subst hr2
                   have HB5 := Lib.hid (HB4.out.trans (hb5.mono HB4.out.size))
                   clear hb5)
                | (go_at_call 10
                   refine Calls.mono (c10 (N := 65536) (HM.out.below HB5.out) HS.out hn0 (by omega) (by omega) hd) ?_
                   rintro e w6 ⟨rfl, hb6⟩
                   have HB6 := Lib.hid (HB5.out.trans (hb6.mono HB5.out.size))
                   clear hb6))
              go_ret
              exact ⟨rfl, HB6.out⟩
  · go_loopw [5, 36] (fun x p wr => ∃ (i t : Nat), i ≤ l.length ∧ x = .int .i64 (t : Int) ∧ p = .int .i64 (i : Int) ∧ Hid (t + tot (l.drop i) = tot l) ∧ Hid (Below w1.heap.size w1 wr))
      (fun _ p _ => match p with | .int _ r => l.length - r.toNat | _ => 0)
    case atStart => exact ⟨0, 0, by omega, rfl, rfl, Lib.hid (by simp), Lib.hid (Below.refl _ _)⟩
    case round =>
      obtain ⟨i, t, hi, rfl, rfl, HT, HB3⟩ := hrel
      have hF := read_facts HS.out (by omega) HR.out
      have hll : l.length ≤ 1000 := by have h5 := hF.2.1; omega
      have htb := tot_bound l (fun s hs => ⟨(hF.2.2.2.2.2 s hs).1, (hF.2.2.2.2.2 s hs).2.1⟩)
      have ht0 := HT.out
      have HF := Lib.hid hF
      clear hF
      by_cases hil : i < l.length
      · have l1 : (i : Int) < (l.length : Int) := by omega
        obtain ⟨a0, k0, c0', c1', c2', hM⟩ := HL.out i l[i] (by simp [hil])
        have c0 := cell_below HB3.out c0'
        have c1 := cell_below HB3.out c1'
        have c2 := cell_below HB3.out c2'
        clear c0' c1' c2' hM
        obtain ⟨hb1, hb2, _⟩ := HF.out.2.2.2.2.2 l[i] (List.getElem_mem hil)
        have HD := Lib.hid (List.drop_eq_getElem_cons hil)
        have htc := HT.out
        rw [HD.out, tot] at htc
        generalize l[i] = s at c0 c1 c2 hb1 hb2 htc
        have HTC := Lib.hid htc
        have htt : t ≤ 2100000000 := by omega
        clear htc ht0
        go_wp2
        refine ⟨⟨i + 1, t + (s.lits.length + s.len), by omega, by simp, rfl, Lib.hid (by have h5 := HTC.out; omega), Lib.hid (HB3.out.alloc HB3.out.size _)⟩, ?_⟩
        show l.length - ((i : Int) + 1).toNat < l.length - (i : Int).toNat
        omega
      · obtain rfl : i = l.length := by omega
        have l1 : ¬ (l.length : Int) < (l.length : Int) := by omega
        rw [List.drop_length, tot] at ht0
        have HB4 := Lib.hid (HB.out.trans (HB3.out.mono HB.out.size))
        have HL4 := Lib.hid (fun i s hs => (HL.out i s hs).below HB3.out)
        by_cases hbig : 32768 < t
        · have hb1 : (32768 : Int) < (t : Int) := by omega
          go_wp2
          go_ret
          exact ⟨rfl, HB4.out⟩
        · have hb1 : ¬ (32768 : Int) < (t : Int) := by omega
          have hn0 := HF.out.2.2.2.2.1 (by omega)
          have HSTEP := Lib.hid (fun (i : Nat) (s : PStep) (hs : l[i]? = some s) => HF.out.2.2.2.2.2 s (List.mem_of_getElem? hs))
          have hlaw := any_law HR.out (by omega) (by omega)
          clear ht0
          rcases hlaw with ⟨y, h0, hpl, hd⟩ | ⟨hcase, hd⟩
          · omega
          · clear hcase
            cases hpl : plain (fun _ => 0) 0 65536 l [] with
            | none =>
              go_wp2_with (first
                | (go_at_call 9
                   refine Calls.mono (plain9 g cap l [] none 0 65536 wr HL4.out (memL_nil _) hcap (by omega) (by simp) (by omega) HSTEP.out) ?_
                   rintro e w5 ⟨hb5, hr2⟩
                   rw [nil_getD, List.length_nil, hpl] at hr2
                   subst hr2
                   have HB5 := Lib.hid (HB4.out.trans (hb5.mono HB4.out.size))
                   clear hb5)
                | (go_at_call 10
                   refine Calls.mono (c10 (N := 65536) (HM.out.below HB5.out) HS.out hn0 (by omega) (by omega) hd) ?_
                   rintro e w6 ⟨rfl, hb6⟩
                   have HB6 := Lib.hid (HB5.out.trans (hb6.mono HB5.out.size))
                   clear hb6))
              go_ret
              exact ⟨rfl, HB6.out⟩
            | some y =>
              go_wp2_with (first
                | (go_at_call 9
                   refine Calls.mono (plain9 g cap l [] none 0 65536 wr HL4.out (memL_nil _) hcap (by omega) (by simp) (by omega) HSTEP.out) ?_
                   rintro e w5 ⟨hb5, hr2⟩
                   rw [nil_getD, List.length_nil, hpl] at hr2
                   obtain ⟨ya, yc, rfl, hym⟩ := hr2
                   have HYM := Lib.hid hym
                   have HB5 := Lib.hid (HB4.out.trans (hb5.mono HB4.out.size))
                   clear hb5 hym)
                | (go_at_call 10
                   refine Calls.mono (c10 (N := 65536) (HM.out.below HB5.out) HS.out hn0 (by omega) (by omega) hd) ?_
                   rintro e w6 ⟨rfl, hb6⟩
                   have HB6 := Lib.hid (HB5.out.trans (hb6.mono HB5.out.size))
                   clear hb6))
              go_ret
              exact ⟨rfl, HB6.out⟩
  · go_ret
    exact ⟨rfl, HB.out⟩
end Go.Proofs.Ytkfkbbablgbfoaa
