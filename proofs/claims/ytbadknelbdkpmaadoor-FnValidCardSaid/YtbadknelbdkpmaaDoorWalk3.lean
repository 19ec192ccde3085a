/-
  FnValid's walk.
-/
import Derived.Test.YtbadknelbdkpmaaDoorLaw
import Derived.Test.YtbadknelbdkpmaaDoorRowIn
import Derived.Test.YtbadknelbdkpmaaDoorBad
import Derived.Test.YtbadknelbdkpmaaDoorTakes
import Derived.Test.YtbadknelbdkpmaaDoorLong
import Derived.Laws.BytesArg
import Derived.Deep.RegionHeld3
namespace Go.Proofs.YtbadknelbdkpmaaDoor
open Go.RowKit
set_option linter.unusedVariables false
set_option maxHeartbeats 2000000
set_option maxRecDepth 20000
/-- bytes that a reading takes, the call's own -/
def Good (w w' : World) (v : Value) : Prop :=
  ∃ L, OwnB w' w.heap.size v L ∧ HeadOk (fun j => L.getD j 0) L.length ∧ (∀ u ∈ L, 0 ≤ u ∧ u ≤ 255) ∧ L.length ≤ 30000 ∧ Below w.heap.size w w'
/-- block g is a row of bytes that begins with L -/
def RowG (w : World) (g : Nat) (L : List Int) : Prop := ∃ cur, w.heap[g]? = some (.cells cur 5 (0, 0)) ∧ ∀ i, i < L.length → cur[i]? = some (.int .u8 (L.getD i 0))
theorem RowG.below {w w' : World} {g : Nat} {L : List Int} (h : RowG w g L) (hb : Below w.heap.size w w') : RowG w' g L := by
  obtain ⟨cur, h1, h2⟩ := h
  refine ⟨cur, ?_, h2⟩
  rw [hb.block g (Array.getElem?_eq_some_iff.1 h1).1]
  exact h1
theorem RowG.cell {w : World} {g : Nat} {L : List Int} (h : RowG w g L) (i : Nat) (hi : i < L.length) : w.cell? ⟨g, i, none⟩ = some (.int .u8 (L.getD i 0)) := by
  obtain ⟨cur, h1, h2⟩ := h
  rw [cell_of_row w g i _ 5 (0, 0) h1]
  exact h2 i hi
theorem RowG.free {w : World} {g : Nat} {L : List Int} (h : RowG w g L) (j : Nat) : w.frozen? ⟨g, j, none⟩ = false := by
  obtain ⟨cur, h1, h2⟩ := h
  exact frozen_of_row w g j _ 5 h1
theorem RowG.set {w : World} {g : Nat} {L : List Int} (h : RowG w g L) (j : Nat) (x : Int) : RowG (w.setCell ⟨g, j, none⟩ (.int .u8 x)) g (L.set j x) := by
  obtain ⟨cur, h1, h2⟩ := h
  refine ⟨_, heap_setCell_same w g j _ 5 _ h1, fun i hi => ?_⟩
  have hi2 : i < L.length := by simpa using hi
  have h3 := h2 i hi2
  by_cases e : j = i
  · subst e
    have : j < cur.size := (Array.getElem?_eq_some_iff.1 h3).1
    simp [this, hi2, List.getD_eq_getElem?_getD]
  · rw [Array.getElem?_setIfInBounds_ne e, h3]
    simp [List.getD_eq_getElem?_getD, e]
theorem RowG.drew {w : World} {g : Nat} {L : List Int} (h : RowG w g L) : RowG w.drew g L := h
theorem RowG.keep {w : World} {g h : Nat} {L : List Int} (hr : RowG w h L) (j : Nat) (v : Value) (hne : h ≠ g) : RowG (w.setCell ⟨g, j, none⟩ v) h L := by
  obtain ⟨cur, h1, h2⟩ := hr
  refine ⟨cur, ?_, h2⟩
  rw [heap_setCell_other w ⟨g, j, none⟩ h v hne]
  exact h1
theorem RowG.mem {w : World} {g cap : Nat} {L : List Int} (h : RowG w g L) (h1 : L.length ≤ cap) (h2 : cap ≤ 9223372036854775807) : MemL w (some ⟨g, 0, none⟩) cap L :=
  ⟨h1, h2, .inr ⟨g, 0, rfl, fun i hi => by rw [Nat.zero_add]; exact h.cell i hi⟩⟩
theorem RowG.lt {w : World} {g : Nat} {L : List Int} (h : RowG w g L) : g < w.heap.size := by
  obtain ⟨cur, h1, h2⟩ := h
  exact (Array.getElem?_eq_some_iff.1 h1).1
theorem OwnB.row {w : World} {base : Nat} {v : Value} {L : List Int} (h : OwnB w base v L) (h0 : 0 < L.length) : ∃ g cap, v = .slice (some ⟨g, 0, none⟩) L.length cap ∧ RowG w g L ∧ base ≤ g ∧ L.length ≤ cap ∧ cap ≤ 9223372036854775807 := by
  have h2 : w.ownsRow base 5 1 v L.length (L.map (Value.int .u8)) := h
  rcases h2.2 with ⟨rfl, e⟩ | ⟨g, cap, cur, rfl, hb, hg, hnc, hcm, hcs, htake⟩
  · omega
  · refine ⟨g, cap, rfl, ⟨cur, hg, fun i hi => ?_⟩, hb, hnc, by unfold maxLen at hcm; omega⟩
    have h3 := h2.cellAt i (by simpa using hi)
    rw [cell_of_row w g i _ 5 (0, 0) hg] at h3
    rw [h3]
    simp [List.getD_eq_getElem?_getD, List.getElem?_eq_getElem hi]
theorem xor8_bd (x y : Int) : 0 ≤ bits .xor .u8 x y ∧ bits .xor .u8 x y ≤ 255 := by
  have h : ∀ z : Int, 0 ≤ IntKind.u8.wrap z ∧ IntKind.u8.wrap z ≤ 255 := by
    intro z
    simp [IntKind.wrap, IntKind.bits, IntKind.signed]
    omega
  exact h _
theorem range_set {L : List Int} (h : ∀ u ∈ L, 0 ≤ u ∧ u ≤ 255) (j : Nat) {x : Int} (hx : 0 ≤ x ∧ x ≤ 255) : ∀ u ∈ L.set j x, 0 ≤ u ∧ u ≤ 255 := by
  intro u hu
  rcases List.mem_or_eq_of_mem_set hu with h1 | h1
  · exact h u h1
  · rw [h1]; exact hx
theorem conv4 {w : World} {g cap : Nat} {L : List Int} (h : RowG w g L) (h4 : 4 ≤ L.length) : (convert 23 9 (.slice (some ⟨g, 0, none⟩) 4 cap)).run Tryd.prog w = .ok (.string (strOfNums (L.take 4))) w :=
  run_convert_bytes_arg w 23 5 Tryd.underlying23 Tryd.underlying5 g 0 4 cap (L.take 4) (by simp; omega) (fun i hi => by
    rw [Nat.zero_add, h.cell i (by omega)]
    simp [List.getD_eq_getElem?_getD, hi]) 9 Tryd.underlying9
theorem steps_made {w : World} {a : Option Addr} {c : Nat} {xs : List Int} (hm : MemL w a c xs) : StepsMem (w.alloc (.cells #[.slice a xs.length c, .int .i64 0, .int .i64 0] 31)) w.heap.size [⟨xs, 0, 0⟩] := by
  intro i s hs
  rcases i with _ | i
  · simp at hs
    subst hs
    exact ⟨a, c, by simp [go_sem], by simp [go_sem], by simp [go_sem], hm.below ((Below.refl _ _).alloc (Nat.le_refl _) _)⟩
  · simp at hs
theorem walk3c {n by_ : Int} {ad : Option Addr} {cp : Nat} {xs : List Int} {l : Bool} {w : World} (hn : 0 ≤ n ∧ n ≤ 4294967295) (hby : 0 ≤ by_ ∧ by_ ≤ 4294967295) (hm : MemL w ad cp xs) (hx : ∀ u ∈ xs, 0 ≤ u ∧ u ≤ 255) (hl : xs.length ≤ 4096) :
    Calls Tryd.prog 3 #[.int .u32 n, .slice ad xs.length cp, .bool l, .int .u32 by_] w fun e w' => e = .returned (.bool true) ∧ Below w.heap.size w w' := by
  have HM := Lib.hid hm
  have HX := Lib.hid hx
  clear hm hx
  go_enter Tryd.func3, Tryd.ntmps3
  go_upto_if 26 with (first
    | (go_at_call 5
       refine Calls.mono (frameOf5 n hn.1 hn.2 _) ?_
       rintro e w1 ⟨⟨a, b, c, rfl⟩, hB1⟩
       have HB1 := Lib.hid hB1
       clear hB1)
    | (go_at_call 4
       refine Calls.mono (write4 (k := 4 + n % 4) (a := a) (b := b) (c := c) (by omega) (HM.out.below HB1.out) HX.out hl) ?_
       rintro e w2 ⟨val, rest, rfl, ho2, hl2, hr2, hB2⟩
       have HG : Hid (Good w w2 val) := Lib.hid ⟨_, ho2.low (grown_of_below HB1.out none).size, head_ok (by omega), range_app (headL_range (by omega)) hr2, by
         have : (headL (4 + n % 4) a b c (xs.length : Int)).length ≤ 20 := by unfold headL midOf; cases b <;> simp [fourB]
         rw [List.length_append]; omega, HB1.out.grown (grown_of_below hB2 none) (grown_of_below HB1.out none).size (by simp)⟩
       clear ho2 hl2 hr2 hB2))
  go_cut [9] from 27 to 32 (fun s9 wx => Hid (Good w wx s9))
  case first =>
    cases l
    · go_wp2
      go_meet
      case rel => exact HG
    · have hs2 := Lib.hid (show w.heap.size ≤ w2.heap.size by obtain ⟨L, _, _, _, _, hB⟩ := HG.out; exact hB.size)
      have HBw2 := Lib.hid (show Below w.heap.size w w2 by obtain ⟨L, _, _, _, _, hB⟩ := HG.out; exact hB)
      go_wp2_with (first
        | (go_at_call 6
           refine Calls.mono (four6o _ (by decide) (by decide) _) ?_
           rintro e w3 ⟨val3, rfl, ho3, hB3⟩
           have HB3 := Lib.hid (HBw2.out.grown (grown_of_below hB3 none) hs2.out (by simp))
           have hs3 := Lib.hid (Nat.le_trans hs2.out (grown_of_below hB3 none).size)
           have HO3 := Lib.hid (ho3.low hs2.out)
           clear ho3 hB3)
        | (go_at_call 7
           refine Calls.mono (pack7 (steps_made (HM.out.below HB3.out)) (Nat.le_refl _) HX.out (by omega)) ?_
           rintro e w5 ⟨P, a5, c5, rfl, hm5, hl5, hr5, hB5⟩
           have HM5 := Lib.hid hm5
           have HR5 := Lib.hid hr5
           have HO5 := Lib.hid ((HO3.out.alloc _).below hB5)
           have HB5 := Lib.hid ((HB3.out.alloc hs3.out _).grown (grown_of_below hB5 none) (by have := hs3.out; simp; omega) (by simp))
           have hs5 := Lib.hid (show w.heap.size ≤ w5.heap.size from Nat.le_trans (by have := hs3.out; simp; omega) (grown_of_below hB5 none).size)
           clear hm5 hr5 hB5)
        | (at_builtin
           refine wpList_append_bytes (base := w.heap.size) rfl (.tmp 27) (.tmp 31) rfl rfl HO5.out rfl HM5.out (by simp [fourB]; omega) hs5.out ?_
           intro v8 w8 own8 hgr8 hat8
           have HG8 : Hid (Good w w8 v8) := Lib.hid ⟨_, own8, old_ok P, range_app (fourB_range _) HR5.out, by simp [fourB]; omega, HB5.out.grown hgr8 hs5.out (fun k hk => (HO5.out.lt k hk).1)⟩
           clear own8 hgr8 hat8))
      go_meet
      case rel => exact HG8
  case rest =>
    obtain ⟨L, hown, hok, hr, hlen, hB⟩ := hcut.out
    have h4 := hok.1
    obtain ⟨g, cap, rfl, hrow, hg, hc1, hc2⟩ := hown.row (by omega)
    have HOK := Lib.hid hok
    have HR := Lib.hid hr
    have HB := Lib.hid hB
    have HW := Lib.hid hrow
    clear hcut hown hok hr hB hrow HG
    by_cases h0 : by_ = 0
    · subst h0
      go_wp2_with (
         go_at_call 8
         refine Calls.mono (valid8_ok (HW.out.mem hc1 hc2) (getD_range HR.out) (by omega) HOK.out) ?_
         rintro e w9 ⟨rfl, hB9⟩
         have HB9 := Lib.hid (HB.out.grown (grown_of_below hB9 none) HB.out.size (by simp))
         clear hB9)
      go_ret
      exact ⟨rfl, HB9.out⟩
    · have hb0 : (by_ == 0) = false := by simp [h0]
      go_upto_if 49 with (first
       | (go_at_call 8
          refine Calls.mono (valid8_ok (HW.out.mem hc1 hc2) (getD_range HR.out) (by omega) HOK.out) ?_
          rintro e w9 ⟨rfl, hB9⟩
          have HW9 := Lib.hid (HW.out.below hB9)
          have HB9 := Lib.hid (HB.out.grown (grown_of_below hB9 none) HB.out.size (by simp))
          clear hB9)
       | (go_at_call 6
          refine Calls.mono (four6o by_ hby.1 hby.2 _) ?_
          rintro e wa ⟨vala, rfl, hoa, hBa⟩
          have HWa := Lib.hid (HW9.out.below hBa)
          have HBa := Lib.hid (HB9.out.grown (grown_of_below hBa none) HB9.out.size (by simp))
          have hga := Lib.hid HW9.out.lt
          obtain ⟨h, cah, rfl, hrh, hgh, hch1, hch2⟩ := hoa.row (by simp [fourB])
          have HRH := Lib.hid hrh
          have hne := Lib.hid (show h ≠ g by have := hga.out; omega)
          clear hoa hBa hrh))
      have hYr := Lib.hid (fourB_range by_)
      generalize hYe : fourB by_ = Y at HRH hch1 hYr ⊢
      have e4 : Y.length = 4 := by rw [← hYe]; simp [fourB]
      clear hYe
      rw [e4] at hch1 ⊢
      go_loopw [48] (fun p wr => ∃ j : Nat, j ≤ 4 ∧ p = .int .i64 (j : Int) ∧ Hid (∃ L', L'.length = L.length ∧ RowG wr g L' ∧ ∀ u ∈ L', 0 ≤ u ∧ u ≤ 255) ∧ Hid (RowG wr h Y) ∧ Hid (Below w.heap.size w wr))
        (fun p _ => match p with | .int _ r => 4 - r.toNat | _ => 0)
      case atStart => exact ⟨0, by omega, rfl, ⟨L, rfl, HWa.out, HR.out⟩, HRH, HBa⟩
      case round =>
        obtain ⟨j, hj, rfl, HL, HH, HBr⟩ := hrel
        obtain ⟨L', hlL, hwL, hrL⟩ := HL.out
        have HWL := Lib.hid hwL
        have HRL := Lib.hid hrL
        by_cases hj4 : j < 4
        · have l1 : (j : Int) < 4 := by omega
          have c1 := hwL.cell j (by omega)
          have f1 := hwL.free j
          have c2 := HH.out.cell j (by omega)
          have l2 : (j : Int) < (L.length : Int) := by omega
          have l3 : j < L.length := by omega
          clear hwL hrL HL
          generalize L'.getD j 0 = X at c1
          generalize Y.getD j 0 = Z at c2
          go_upto_region 15 with fail
          go_region
          all_goals go_wp2
          all_goals
            refine ⟨⟨j + 1, by omega, rfl, Lib.hid ⟨L'.set j (bits .xor .u8 X Z), by simpa using hlL, ?_, range_set HRL.out j (xor8_bd X Z)⟩, Lib.hid ?_, Lib.hid ?_⟩, ?_⟩
            · exact RowG.drew (HWL.out.set j _)
            · exact RowG.drew (HH.out.keep j _ hne.out)
            · exact (HBr.out.setCell hg _).drew
            · show 4 - ((j : Int) + 1).toNat < 4 - (j : Int).toNat
              omega
        · obtain rfl : j = 4 := by omega
          have hl4 : 4 ≤ L'.length := by omega
          have c0 := hwL.cell 0 (by omega)
          have c1 := hwL.cell 1 (by omega)
          have c2 := hwL.cell 2 (by omega)
          have c3 := hwL.cell 3 (by omega)
          have HBAD : Hid (((strOfNums (L'.take 4)).toList == (strOfNums (fourB 407642370)).toList) = false → ((strOfNums (L'.take 4)).toList == (strOfNums (fourB 407708164)).toList) = false → ¬ (L'.getD 1 0 = 42 ∧ L'.getD 2 0 = 77 ∧ L'.getD 3 0 = 24) → HeadBad (fun j => L'.getD j 0) L'.length) := Lib.hid (head_bad hl4 hrL)
          have HV0 : Hid (∀ w' : World, RowG w' g L' → HeadBad (fun j => L'.getD j 0) L'.length → Calls Tryd.prog 8 #[.slice (some ⟨g, 0, none⟩) L.length cap] w' fun e w'' => e = .returned (.tuple #[.bool false, .bool true]) ∧ Below w'.heap.size w' w'') :=
            Lib.hid (by rw [← hlL]; exact fun w' hw hh => valid8_bad (hw.mem (by omega) hc2) (getD_range HRL.out) (by omega) hh)
          have qA : ∀ w' : World, RowG w' g L' → (convert 23 9 (.slice (some ⟨g, 0, none⟩) 4 cap)).run Tryd.prog w' = .ok (.string (strOfNums (L'.take 4))) w' := fun w' hw => conv4 hw hl4
          have qB : ∀ (w' : World) (g' c' : Nat), RowG w' g' (fourB 407642370) → (convert 23 9 (.slice (some ⟨g', 0, none⟩) 4 c')).run Tryd.prog w' = .ok (.string (strOfNums (fourB 407642370))) w' := fun w' g' c' hw => conv4 hw (by simp [fourB])
          have qC : ∀ (w' : World) (g' c' : Nat), RowG w' g' (fourB 407708164) → (convert 23 9 (.slice (some ⟨g', 0, none⟩) 4 c')).run Tryd.prog w' = .ok (.string (strOfNums (fourB 407708164))) w' := fun w' g' c' hw => conv4 hw (by simp [fourB])
          clear hwL hrL HL
          generalize L'.getD 0 0 = b0 at c0 HBAD
          generalize L'.getD 1 0 = b1 at c1 HBAD
          generalize L'.getD 2 0 = b2 at c2 HBAD
          generalize L'.getD 3 0 = b3 at c3 HBAD
          generalize strOfNums (L'.take 4) = A at qA HBAD
          generalize strOfNums (fourB 407642370) = B1 at qB HBAD
          generalize strOfNums (fourB 407708164) = B2 at qC HBAD
          generalize hYB : fourB 407642370 = Y1 at qB
          generalize hYC : fourB 407708164 = Y2 at qC
          have hs0 : (4 : Int) ≤ (L.length : Int) := by omega
          have hs5 : (4 : Int) ≤ (cap : Int) := by omega
          have hs6 : 4 ≤ cap := by omega
          have hi1 : (1 : Int) < (L.length : Int) := by omega
          have hi2 : (2 : Int) < (L.length : Int) := by omega
          have hi3 : (3 : Int) < (L.length : Int) := by omega
          have hj1 : 1 < L.length := by omega
          have hj2 : 2 < L.length := by omega
          have hj3 : 3 < L.length := by omega
          go_upto_region 17 with fail
          refine wp_region_held_drew (S := fun w' => RowG w' g L' ∧ w'.cell? ⟨g, 1, none⟩ = some (.int .u8 b1) ∧ w'.cell? ⟨g, 2, none⟩ = some (.int .u8 b2) ∧ w'.cell? ⟨g, 3, none⟩ = some (.int .u8 b3) ∧ Below w.heap.size w w') (by kernel_rfl) ⟨HWL.out.drew, c1, c2, c3, HBr.out.drew⟩ (fun hHeld => ?_)
          refine takeV 0 62 ?_ (of_decide_eq_true (by kernel_rfl)) rfl (by kernel_rfl) (by kernel_rfl) (by kernel_rfl) (fun _ _ _ _ h => h) (by rfl) hHeld ?_ ?_
          rotate_left
          · intro w' hS
            try dsimp only at hS
            go_simp
            try rfl
          simp only [List.set_cons_zero, List.set_cons_succ]
          refine takeV 1 63 ?_ (of_decide_eq_true (by kernel_rfl)) rfl (by kernel_rfl) (by kernel_rfl) (by kernel_rfl) (fun _ _ _ _ h => h) (by rfl) hHeld ?_ ?_
          rotate_left
          · intro w' hS
            try dsimp only at hS
            go_simp
            try rfl
          simp only [List.set_cons_zero, List.set_cons_succ]
          refine takeV 2 64 ?_ (of_decide_eq_true (by kernel_rfl)) rfl (by kernel_rfl) (by kernel_rfl) (by kernel_rfl) (fun _ _ _ _ h => h) (by rfl) hHeld ?_ ?_
          rotate_left
          · intro w' hS
            have q := qA w' hS.1
            go_simp
            try rfl
          simp only [List.set_cons_zero, List.set_cons_succ]
          refine callV 3 65 (of_decide_eq_true (by kernel_rfl)) rfl (by kernel_rfl) (by rfl) (f := 6) (args := ?_) ?_ ?_
          rotate_left
          · go_simp
            try rfl
          refine Calls.mono (four6o 407642370 (by decide) (by decide) _) ?_
          rintro e wd ⟨valwd, rfl, howd, hBwd⟩
          rw [hYB] at howd
          obtain ⟨gwd, cwd, rfl, hrwd, _, _, _⟩ := howd.row (by rw [← hYB]; simp [fourB])
          have eYwd : Y1.length = 4 := by rw [← hYB]; simp [fourB]
          have hHeld' := hHeld
          clear hHeld howd
          have hHeld := show RowG wd g L' ∧ wd.cell? ⟨g, 1, none⟩ = some (.int .u8 b1) ∧ wd.cell? ⟨g, 2, none⟩ = some (.int .u8 b2) ∧ wd.cell? ⟨g, 3, none⟩ = some (.int .u8 b3) ∧ Below w.heap.size w wd from ⟨hHeld'.1.below hBwd, cell_below hBwd hHeld'.2.1, cell_below hBwd hHeld'.2.2.1, cell_below hBwd hHeld'.2.2.2.1, hHeld'.2.2.2.2.grown (grown_of_below hBwd none) hHeld'.2.2.2.2.size (by simp)⟩
          refine ⟨_, rfl, hHeld, ?_⟩
          clear hHeld' hBwd
          rw [eYwd]
          simp only [List.set_cons_zero, List.set_cons_succ]
          refine runV 4 66 ?_ (of_decide_eq_true (by kernel_rfl)) rfl (by kernel_rfl) (by rfl) hHeld ?_ ?_
          rotate_left
          · have q := qB wd gwd cwd hrwd
            go_simp
            try rfl
          simp only [List.set_cons_zero, List.set_cons_succ]
          refine takeV 5 67 ?_ (of_decide_eq_true (by kernel_rfl)) rfl (by kernel_rfl) (by kernel_rfl) (by kernel_rfl) (fun _ _ _ _ h => h) (by rfl) hHeld ?_ ?_
          rotate_left
          · intro w' hS
            try dsimp only at hS
            go_simp
            try rfl
          simp only [List.set_cons_zero, List.set_cons_succ]
          generalize hs1 : (A.toList == B1.toList) = t1
          refine takeV 6 68 ?_ (of_decide_eq_true (by kernel_rfl)) rfl (by kernel_rfl) (by kernel_rfl) (by kernel_rfl) (fun _ _ _ _ h => h) (by rfl) hHeld ?_ ?_
          rotate_left
          · intro w' hS
            try dsimp only at hS
            go_simp
            try rfl
          simp only [List.set_cons_zero, List.set_cons_succ]
          cases t1
          case true =>
            refine skipV 7 69 (of_decide_eq_true (by kernel_rfl)) rfl (by kernel_rfl) (by kernel_rfl) (by kernel_rfl) (fun _ _ _ _ h => h) (by rfl) hHeld ?_
            simp only [List.set_cons_zero, List.set_cons_succ]
            refine skipV 8 70 (of_decide_eq_true (by kernel_rfl)) rfl (by kernel_rfl) (by kernel_rfl) (by kernel_rfl) (fun _ _ _ _ h => h) (by rfl) hHeld ?_
            simp only [List.set_cons_zero, List.set_cons_succ]
            refine skipV 9 71 (of_decide_eq_true (by kernel_rfl)) rfl (by kernel_rfl) (by kernel_rfl) (by kernel_rfl) (fun _ _ _ _ h => h) (by rfl) hHeld ?_
            simp only [List.set_cons_zero, List.set_cons_succ]
            refine skipV 10 72 (of_decide_eq_true (by kernel_rfl)) rfl (by kernel_rfl) (by kernel_rfl) (by kernel_rfl) (fun _ _ _ _ h => h) (by rfl) hHeld ?_
            simp only [List.set_cons_zero, List.set_cons_succ]
            refine skipV 11 73 (of_decide_eq_true (by kernel_rfl)) rfl (by kernel_rfl) (by kernel_rfl) (by kernel_rfl) (fun _ _ _ _ h => h) (by rfl) hHeld ?_
            simp only [List.set_cons_zero, List.set_cons_succ]
            refine skipV 12 74 (of_decide_eq_true (by kernel_rfl)) rfl (by kernel_rfl) (by kernel_rfl) (by kernel_rfl) (fun _ _ _ _ h => h) (by rfl) hHeld ?_
            simp only [List.set_cons_zero, List.set_cons_succ]
            refine takeV 13 75 ?_ (of_decide_eq_true (by kernel_rfl)) rfl (by kernel_rfl) (by kernel_rfl) (by kernel_rfl) (fun _ _ _ _ h => h) (by rfl) hHeld ?_ ?_
            rotate_left
            · intro w' hS
              try dsimp only at hS
              go_simp
              try rfl
            simp only [List.set_cons_zero, List.set_cons_succ]
            refine takeV 14 76 ?_ (of_decide_eq_true (by kernel_rfl)) rfl (by kernel_rfl) (by kernel_rfl) (by kernel_rfl) (fun _ _ _ _ h => h) (by rfl) hHeld ?_ ?_
            rotate_left
            · intro w' hS
              try dsimp only at hS
              go_simp
              try rfl
            simp only [List.set_cons_zero, List.set_cons_succ]
            refine skipV 15 77 (of_decide_eq_true (by kernel_rfl)) rfl (by kernel_rfl) (by kernel_rfl) (by kernel_rfl) (fun _ _ _ _ h => h) (by rfl) hHeld ?_
            simp only [List.set_cons_zero, List.set_cons_succ]
            refine skipV 16 78 (of_decide_eq_true (by kernel_rfl)) rfl (by kernel_rfl) (by kernel_rfl) (by kernel_rfl) (fun _ _ _ _ h => h) (by rfl) hHeld ?_
            simp only [List.set_cons_zero, List.set_cons_succ]
            refine skipV 17 79 (of_decide_eq_true (by kernel_rfl)) rfl (by kernel_rfl) (by kernel_rfl) (by kernel_rfl) (fun _ _ _ _ h => h) (by rfl) hHeld ?_
            simp only [List.set_cons_zero, List.set_cons_succ]
            refine skipV 18 80 (of_decide_eq_true (by kernel_rfl)) rfl (by kernel_rfl) (by kernel_rfl) (by kernel_rfl) (fun _ _ _ _ h => h) (by rfl) hHeld ?_
            simp only [List.set_cons_zero, List.set_cons_succ]
            refine skipV 19 81 (of_decide_eq_true (by kernel_rfl)) rfl (by kernel_rfl) (by kernel_rfl) (by kernel_rfl) (fun _ _ _ _ h => h) (by rfl) hHeld ?_
            simp only [List.set_cons_zero, List.set_cons_succ]
            refine skipV 20 82 (of_decide_eq_true (by kernel_rfl)) rfl (by kernel_rfl) (by kernel_rfl) (by kernel_rfl) (fun _ _ _ _ h => h) (by rfl) hHeld ?_
            simp only [List.set_cons_zero, List.set_cons_succ]
            refine skipV 21 83 (of_decide_eq_true (by kernel_rfl)) rfl (by kernel_rfl) (by kernel_rfl) (by kernel_rfl) (fun _ _ _ _ h => h) (by rfl) hHeld ?_
            simp only [List.set_cons_zero, List.set_cons_succ]
            refine skipV 22 84 (of_decide_eq_true (by kernel_rfl)) rfl (by kernel_rfl) (by kernel_rfl) (by kernel_rfl) (fun _ _ _ _ h => h) (by rfl) hHeld ?_
            simp only [List.set_cons_zero, List.set_cons_succ]
            refine skipV 23 85 (of_decide_eq_true (by kernel_rfl)) rfl (by kernel_rfl) (by kernel_rfl) (by kernel_rfl) (fun _ _ _ _ h => h) (by rfl) hHeld ?_
            simp only [List.set_cons_zero, List.set_cons_succ]
            refine skipV 24 86 (of_decide_eq_true (by kernel_rfl)) rfl (by kernel_rfl) (by kernel_rfl) (by kernel_rfl) (fun _ _ _ _ h => h) (by rfl) hHeld ?_
            simp only [List.set_cons_zero, List.set_cons_succ]
            refine skipV 25 87 (of_decide_eq_true (by kernel_rfl)) rfl (by kernel_rfl) (by kernel_rfl) (by kernel_rfl) (fun _ _ _ _ h => h) (by rfl) hHeld ?_
            simp only [List.set_cons_zero, List.set_cons_succ]
            refine skipV 26 88 (of_decide_eq_true (by kernel_rfl)) rfl (by kernel_rfl) (by kernel_rfl) (by kernel_rfl) (fun _ _ _ _ h => h) (by rfl) hHeld ?_
            simp only [List.set_cons_zero, List.set_cons_succ]
            refine skipV 27 89 (of_decide_eq_true (by kernel_rfl)) rfl (by kernel_rfl) (by kernel_rfl) (by kernel_rfl) (fun _ _ _ _ h => h) (by rfl) hHeld ?_
            simp only [List.set_cons_zero, List.set_cons_succ]
            refine skipV 28 90 (of_decide_eq_true (by kernel_rfl)) rfl (by kernel_rfl) (by kernel_rfl) (by kernel_rfl) (fun _ _ _ _ h => h) (by rfl) hHeld ?_
            simp only [List.set_cons_zero, List.set_cons_succ]
            refine skipV 29 91 (of_decide_eq_true (by kernel_rfl)) rfl (by kernel_rfl) (by kernel_rfl) (by kernel_rfl) (fun _ _ _ _ h => h) (by rfl) hHeld ?_
            simp only [List.set_cons_zero, List.set_cons_succ]
            refine skipV 30 92 (of_decide_eq_true (by kernel_rfl)) rfl (by kernel_rfl) (by kernel_rfl) (by kernel_rfl) (fun _ _ _ _ h => h) (by rfl) hHeld ?_
            simp only [List.set_cons_zero, List.set_cons_succ]
            refine takeV 31 93 ?_ (of_decide_eq_true (by kernel_rfl)) rfl (by kernel_rfl) (by kernel_rfl) (by kernel_rfl) (fun _ _ _ _ h => h) (by rfl) hHeld ?_ ?_
            rotate_left
            · intro w' hS
              try dsimp only at hS
              go_simp
              try rfl
            simp only [List.set_cons_zero, List.set_cons_succ]
            refine wpAnyH_done (by kernel_rfl) ?_ _
            have hBz := Lib.hid hHeld.2.2.2.2
            clear hHeld c0 c1 c2 c3 qA qB qC
            go_wp2
            go_ret
            exact ⟨rfl, hBz.out⟩
          case false =>
            refine takeV 7 69 ?_ (of_decide_eq_true (by kernel_rfl)) rfl (by kernel_rfl) (by kernel_rfl) (by kernel_rfl) (fun _ _ _ _ h => h) (by rfl) hHeld ?_ ?_
            rotate_left
            · intro w' hS
              try dsimp only at hS
              go_simp
              try rfl
            simp only [List.set_cons_zero, List.set_cons_succ]
            refine takeV 8 70 ?_ (of_decide_eq_true (by kernel_rfl)) rfl (by kernel_rfl) (by kernel_rfl) (by kernel_rfl) (fun _ _ _ _ h => h) (by rfl) hHeld ?_ ?_
            rotate_left
            · intro w' hS
              try dsimp only at hS
              go_simp
              try rfl
            simp only [List.set_cons_zero, List.set_cons_succ]
            refine takeV 9 71 ?_ (of_decide_eq_true (by kernel_rfl)) rfl (by kernel_rfl) (by kernel_rfl) (by kernel_rfl) (fun _ _ _ _ h => h) (by rfl) hHeld ?_ ?_
            rotate_left
            · intro w' hS
              have q := qA w' hS.1
              go_simp
              try rfl
            simp only [List.set_cons_zero, List.set_cons_succ]
            refine callV 10 72 (of_decide_eq_true (by kernel_rfl)) rfl (by kernel_rfl) (by rfl) (f := 6) (args := ?_) ?_ ?_
            rotate_left
            · go_simp
              try rfl
            refine Calls.mono (four6o 407708164 (by decide) (by decide) _) ?_
            rintro e we ⟨valwe, rfl, howe, hBwe⟩
            rw [hYC] at howe
            obtain ⟨gwe, cwe, rfl, hrwe, _, _, _⟩ := howe.row (by rw [← hYC]; simp [fourB])
            have eYwe : Y2.length = 4 := by rw [← hYC]; simp [fourB]
            have hHeld' := hHeld
            clear hHeld howe
            have hHeld := show RowG we g L' ∧ we.cell? ⟨g, 1, none⟩ = some (.int .u8 b1) ∧ we.cell? ⟨g, 2, none⟩ = some (.int .u8 b2) ∧ we.cell? ⟨g, 3, none⟩ = some (.int .u8 b3) ∧ Below w.heap.size w we from ⟨hHeld'.1.below hBwe, cell_below hBwe hHeld'.2.1, cell_below hBwe hHeld'.2.2.1, cell_below hBwe hHeld'.2.2.2.1, hHeld'.2.2.2.2.grown (grown_of_below hBwe none) hHeld'.2.2.2.2.size (by simp)⟩
            refine ⟨_, rfl, hHeld, ?_⟩
            clear hHeld' hBwe
            rw [eYwe]
            simp only [List.set_cons_zero, List.set_cons_succ]
            refine runV 11 73 ?_ (of_decide_eq_true (by kernel_rfl)) rfl (by kernel_rfl) (by rfl) hHeld ?_ ?_
            rotate_left
            · have q := qC we gwe cwe hrwe
              go_simp
              try rfl
            simp only [List.set_cons_zero, List.set_cons_succ]
            refine takeV 12 74 ?_ (of_decide_eq_true (by kernel_rfl)) rfl (by kernel_rfl) (by kernel_rfl) (by kernel_rfl) (fun _ _ _ _ h => h) (by rfl) hHeld ?_ ?_
            rotate_left
            · intro w' hS
              try dsimp only at hS
              go_simp
              try rfl
            simp only [List.set_cons_zero, List.set_cons_succ]
            generalize hs2 : (A.toList == B2.toList) = t2
            refine takeV 13 75 ?_ (of_decide_eq_true (by kernel_rfl)) rfl (by kernel_rfl) (by kernel_rfl) (by kernel_rfl) (fun _ _ _ _ h => h) (by rfl) hHeld ?_ ?_
            rotate_left
            · intro w' hS
              try dsimp only at hS
              go_simp
              try rfl
            simp only [List.set_cons_zero, List.set_cons_succ]
            refine takeV 14 76 ?_ (of_decide_eq_true (by kernel_rfl)) rfl (by kernel_rfl) (by kernel_rfl) (by kernel_rfl) (fun _ _ _ _ h => h) (by rfl) hHeld ?_ ?_
            rotate_left
            · intro w' hS
              try dsimp only at hS
              go_simp
              try rfl
            simp only [List.set_cons_zero, List.set_cons_succ]
            cases t2
            case true =>
              refine skipV 15 77 (of_decide_eq_true (by kernel_rfl)) rfl (by kernel_rfl) (by kernel_rfl) (by kernel_rfl) (fun _ _ _ _ h => h) (by rfl) hHeld ?_
              simp only [List.set_cons_zero, List.set_cons_succ]
              refine skipV 16 78 (of_decide_eq_true (by kernel_rfl)) rfl (by kernel_rfl) (by kernel_rfl) (by kernel_rfl) (fun _ _ _ _ h => h) (by rfl) hHeld ?_
              simp only [List.set_cons_zero, List.set_cons_succ]
              refine skipV 17 79 (of_decide_eq_true (by kernel_rfl)) rfl (by kernel_rfl) (by kernel_rfl) (by kernel_rfl) (fun _ _ _ _ h => h) (by rfl) hHeld ?_
              simp only [List.set_cons_zero, List.set_cons_succ]
              refine skipV 18 80 (of_decide_eq_true (by kernel_rfl)) rfl (by kernel_rfl) (by kernel_rfl) (by kernel_rfl) (fun _ _ _ _ h => h) (by rfl) hHeld ?_
              simp only [List.set_cons_zero, List.set_cons_succ]
              refine skipV 19 81 (of_decide_eq_true (by kernel_rfl)) rfl (by kernel_rfl) (by kernel_rfl) (by kernel_rfl) (fun _ _ _ _ h => h) (by rfl) hHeld ?_
              simp only [List.set_cons_zero, List.set_cons_succ]
              refine skipV 20 82 (of_decide_eq_true (by kernel_rfl)) rfl (by kernel_rfl) (by kernel_rfl) (by kernel_rfl) (fun _ _ _ _ h => h) (by rfl) hHeld ?_
              simp only [List.set_cons_zero, List.set_cons_succ]
              refine skipV 21 83 (of_decide_eq_true (by kernel_rfl)) rfl (by kernel_rfl) (by kernel_rfl) (by kernel_rfl) (fun _ _ _ _ h => h) (by rfl) hHeld ?_
              simp only [List.set_cons_zero, List.set_cons_succ]
              refine skipV 22 84 (of_decide_eq_true (by kernel_rfl)) rfl (by kernel_rfl) (by kernel_rfl) (by kernel_rfl) (fun _ _ _ _ h => h) (by rfl) hHeld ?_
              simp only [List.set_cons_zero, List.set_cons_succ]
              refine skipV 23 85 (of_decide_eq_true (by kernel_rfl)) rfl (by kernel_rfl) (by kernel_rfl) (by kernel_rfl) (fun _ _ _ _ h => h) (by rfl) hHeld ?_
              simp only [List.set_cons_zero, List.set_cons_succ]
              refine skipV 24 86 (of_decide_eq_true (by kernel_rfl)) rfl (by kernel_rfl) (by kernel_rfl) (by kernel_rfl) (fun _ _ _ _ h => h) (by rfl) hHeld ?_
              simp only [List.set_cons_zero, List.set_cons_succ]
              refine skipV 25 87 (of_decide_eq_true (by kernel_rfl)) rfl (by kernel_rfl) (by kernel_rfl) (by kernel_rfl) (fun _ _ _ _ h => h) (by rfl) hHeld ?_
              simp only [List.set_cons_zero, List.set_cons_succ]
              refine skipV 26 88 (of_decide_eq_true (by kernel_rfl)) rfl (by kernel_rfl) (by kernel_rfl) (by kernel_rfl) (fun _ _ _ _ h => h) (by rfl) hHeld ?_
              simp only [List.set_cons_zero, List.set_cons_succ]
              refine skipV 27 89 (of_decide_eq_true (by kernel_rfl)) rfl (by kernel_rfl) (by kernel_rfl) (by kernel_rfl) (fun _ _ _ _ h => h) (by rfl) hHeld ?_
              simp only [List.set_cons_zero, List.set_cons_succ]
              refine skipV 28 90 (of_decide_eq_true (by kernel_rfl)) rfl (by kernel_rfl) (by kernel_rfl) (by kernel_rfl) (fun _ _ _ _ h => h) (by rfl) hHeld ?_
              simp only [List.set_cons_zero, List.set_cons_succ]
              refine skipV 29 91 (of_decide_eq_true (by kernel_rfl)) rfl (by kernel_rfl) (by kernel_rfl) (by kernel_rfl) (fun _ _ _ _ h => h) (by rfl) hHeld ?_
              simp only [List.set_cons_zero, List.set_cons_succ]
              refine skipV 30 92 (of_decide_eq_true (by kernel_rfl)) rfl (by kernel_rfl) (by kernel_rfl) (by kernel_rfl) (fun _ _ _ _ h => h) (by rfl) hHeld ?_
              simp only [List.set_cons_zero, List.set_cons_succ]
              refine takeV 31 93 ?_ (of_decide_eq_true (by kernel_rfl)) rfl (by kernel_rfl) (by kernel_rfl) (by kernel_rfl) (fun _ _ _ _ h => h) (by rfl) hHeld ?_ ?_
              rotate_left
              · intro w' hS
                try dsimp only at hS
                go_simp
                try rfl
              simp only [List.set_cons_zero, List.set_cons_succ]
              refine wpAnyH_done (by kernel_rfl) ?_ _
              have hBz := Lib.hid hHeld.2.2.2.2
              clear hHeld c0 c1 c2 c3 qA qB qC
              go_wp2
              go_ret
              exact ⟨rfl, hBz.out⟩
            case false =>
              refine takeV 15 77 ?_ (of_decide_eq_true (by kernel_rfl)) rfl (by kernel_rfl) (by kernel_rfl) (by kernel_rfl) (fun _ _ _ _ h => h) (by rfl) hHeld ?_ ?_
              rotate_left
              · intro w' hS
                try dsimp only at hS
                go_simp
                try rfl
              simp only [List.set_cons_zero, List.set_cons_succ]
              refine takeV 16 78 ?_ (of_decide_eq_true (by kernel_rfl)) rfl (by kernel_rfl) (by kernel_rfl) (by kernel_rfl) (fun _ _ _ _ h => h) (by rfl) hHeld ?_ ?_
              rotate_left
              · intro w' hS
                try dsimp only at hS
                go_simp
                try rfl
              simp only [List.set_cons_zero, List.set_cons_succ]
              refine takeV 17 79 ?_ (of_decide_eq_true (by kernel_rfl)) rfl (by kernel_rfl) (by kernel_rfl) (by kernel_rfl) (fun _ _ _ _ h => h) (by rfl) hHeld ?_ ?_
              rotate_left
              · intro w' hS
                try dsimp only at hS
                go_simp
                try rfl
              simp only [List.set_cons_zero, List.set_cons_succ]
              refine takeV 18 80 ?_ (of_decide_eq_true (by kernel_rfl)) rfl (by kernel_rfl) (by kernel_rfl) (by kernel_rfl) (fun _ _ _ _ h => h) (by rfl) hHeld ?_ ?_
              rotate_left
              · intro w' hS
                try dsimp only at hS
                go_simp
                try rfl
              simp only [List.set_cons_zero, List.set_cons_succ]
              generalize hs3 : (b1 == 42) = t3
              refine takeV 19 81 ?_ (of_decide_eq_true (by kernel_rfl)) rfl (by kernel_rfl) (by kernel_rfl) (by kernel_rfl) (fun _ _ _ _ h => h) (by rfl) hHeld ?_ ?_
              rotate_left
              · intro w' hS
                try dsimp only at hS
                go_simp
                try rfl
              simp only [List.set_cons_zero, List.set_cons_succ]
              cases t3
              case false =>
                refine skipV 20 82 (of_decide_eq_true (by kernel_rfl)) rfl (by kernel_rfl) (by kernel_rfl) (by kernel_rfl) (fun _ _ _ _ h => h) (by rfl) hHeld ?_
                simp only [List.set_cons_zero, List.set_cons_succ]
                refine skipV 21 83 (of_decide_eq_true (by kernel_rfl)) rfl (by kernel_rfl) (by kernel_rfl) (by kernel_rfl) (fun _ _ _ _ h => h) (by rfl) hHeld ?_
                simp only [List.set_cons_zero, List.set_cons_succ]
                refine skipV 22 84 (of_decide_eq_true (by kernel_rfl)) rfl (by kernel_rfl) (by kernel_rfl) (by kernel_rfl) (fun _ _ _ _ h => h) (by rfl) hHeld ?_
                simp only [List.set_cons_zero, List.set_cons_succ]
                refine skipV 23 85 (of_decide_eq_true (by kernel_rfl)) rfl (by kernel_rfl) (by kernel_rfl) (by kernel_rfl) (fun _ _ _ _ h => h) (by rfl) hHeld ?_
                simp only [List.set_cons_zero, List.set_cons_succ]
                refine takeV 24 86 ?_ (of_decide_eq_true (by kernel_rfl)) rfl (by kernel_rfl) (by kernel_rfl) (by kernel_rfl) (fun _ _ _ _ h => h) (by rfl) hHeld ?_ ?_
                rotate_left
                · intro w' hS
                  try dsimp only at hS
                  go_simp
                  try rfl
                simp only [List.set_cons_zero, List.set_cons_succ]
                refine takeV 25 87 ?_ (of_decide_eq_true (by kernel_rfl)) rfl (by kernel_rfl) (by kernel_rfl) (by kernel_rfl) (fun _ _ _ _ h => h) (by rfl) hHeld ?_ ?_
                rotate_left
                · intro w' hS
                  try dsimp only at hS
                  go_simp
                  try rfl
                simp only [List.set_cons_zero, List.set_cons_succ]
                refine skipV 26 88 (of_decide_eq_true (by kernel_rfl)) rfl (by kernel_rfl) (by kernel_rfl) (by kernel_rfl) (fun _ _ _ _ h => h) (by rfl) hHeld ?_
                simp only [List.set_cons_zero, List.set_cons_succ]
                refine skipV 27 89 (of_decide_eq_true (by kernel_rfl)) rfl (by kernel_rfl) (by kernel_rfl) (by kernel_rfl) (fun _ _ _ _ h => h) (by rfl) hHeld ?_
                simp only [List.set_cons_zero, List.set_cons_succ]
                refine skipV 28 90 (of_decide_eq_true (by kernel_rfl)) rfl (by kernel_rfl) (by kernel_rfl) (by kernel_rfl) (fun _ _ _ _ h => h) (by rfl) hHeld ?_
                simp only [List.set_cons_zero, List.set_cons_succ]
                refine skipV 29 91 (of_decide_eq_true (by kernel_rfl)) rfl (by kernel_rfl) (by kernel_rfl) (by kernel_rfl) (fun _ _ _ _ h => h) (by rfl) hHeld ?_
                simp only [List.set_cons_zero, List.set_cons_succ]
                refine takeV 30 92 ?_ (of_decide_eq_true (by kernel_rfl)) rfl (by kernel_rfl) (by kernel_rfl) (by kernel_rfl) (fun _ _ _ _ h => h) (by rfl) hHeld ?_ ?_
                rotate_left
                · intro w' hS
                  try dsimp only at hS
                  go_simp
                  try rfl
                simp only [List.set_cons_zero, List.set_cons_succ]
                refine takeV 31 93 ?_ (of_decide_eq_true (by kernel_rfl)) rfl (by kernel_rfl) (by kernel_rfl) (by kernel_rfl) (fun _ _ _ _ h => h) (by rfl) hHeld ?_ ?_
                rotate_left
                · intro w' hS
                  try dsimp only at hS
                  go_simp
                  try rfl
                simp only [List.set_cons_zero, List.set_cons_succ]
                refine wpAnyH_done (by kernel_rfl) ?_ _
                have HC := Lib.hid (HV0.out _ hHeld.1 (HBAD.out hs1 hs2 (by simp at hs3; intro h; exact hs3 h.1)))
                have hBz := Lib.hid hHeld.2.2.2.2
                clear hHeld c0 c1 c2 c3 qA qB qC hs1 hs2
                go_wp2_with (
                   go_at_call 8
                   refine Calls.mono HC.out ?_
                   rintro e wz ⟨rfl, hBy⟩
                   have HBy := Lib.hid (hBz.out.grown (grown_of_below hBy none) hBz.out.size (by simp))
                   clear hBy)
                go_ret
                exact ⟨rfl, HBy.out⟩
              case true =>
                refine takeV 20 82 ?_ (of_decide_eq_true (by kernel_rfl)) rfl (by kernel_rfl) (by kernel_rfl) (by kernel_rfl) (fun _ _ _ _ h => h) (by rfl) hHeld ?_ ?_
                rotate_left
                · intro w' hS
                  try dsimp only at hS
                  go_simp
                  try rfl
                simp only [List.set_cons_zero, List.set_cons_succ]
                refine takeV 21 83 ?_ (of_decide_eq_true (by kernel_rfl)) rfl (by kernel_rfl) (by kernel_rfl) (by kernel_rfl) (fun _ _ _ _ h => h) (by rfl) hHeld ?_ ?_
                rotate_left
                · intro w' hS
                  try dsimp only at hS
                  go_simp
                  try rfl
                simp only [List.set_cons_zero, List.set_cons_succ]
                refine takeV 22 84 ?_ (of_decide_eq_true (by kernel_rfl)) rfl (by kernel_rfl) (by kernel_rfl) (by kernel_rfl) (fun _ _ _ _ h => h) (by rfl) hHeld ?_ ?_
                rotate_left
                · intro w' hS
                  try dsimp only at hS
                  go_simp
                  try rfl
                simp only [List.set_cons_zero, List.set_cons_succ]
                refine takeV 23 85 ?_ (of_decide_eq_true (by kernel_rfl)) rfl (by kernel_rfl) (by kernel_rfl) (by kernel_rfl) (fun _ _ _ _ h => h) (by rfl) hHeld ?_ ?_
                rotate_left
                · intro w' hS
                  try dsimp only at hS
                  go_simp
                  try rfl
                simp only [List.set_cons_zero, List.set_cons_succ]
                generalize hs4 : (b2 == 77) = t4
                refine takeV 24 86 ?_ (of_decide_eq_true (by kernel_rfl)) rfl (by kernel_rfl) (by kernel_rfl) (by kernel_rfl) (fun _ _ _ _ h => h) (by rfl) hHeld ?_ ?_
                rotate_left
                · intro w' hS
                  try dsimp only at hS
                  go_simp
                  try rfl
                simp only [List.set_cons_zero, List.set_cons_succ]
                refine takeV 25 87 ?_ (of_decide_eq_true (by kernel_rfl)) rfl (by kernel_rfl) (by kernel_rfl) (by kernel_rfl) (fun _ _ _ _ h => h) (by rfl) hHeld ?_ ?_
                rotate_left
                · intro w' hS
                  try dsimp only at hS
                  go_simp
                  try rfl
                simp only [List.set_cons_zero, List.set_cons_succ]
                cases t4
                case false =>
                  refine skipV 26 88 (of_decide_eq_true (by kernel_rfl)) rfl (by kernel_rfl) (by kernel_rfl) (by kernel_rfl) (fun _ _ _ _ h => h) (by rfl) hHeld ?_
                  simp only [List.set_cons_zero, List.set_cons_succ]
                  refine skipV 27 89 (of_decide_eq_true (by kernel_rfl)) rfl (by kernel_rfl) (by kernel_rfl) (by kernel_rfl) (fun _ _ _ _ h => h) (by rfl) hHeld ?_
                  simp only [List.set_cons_zero, List.set_cons_succ]
                  refine skipV 28 90 (of_decide_eq_true (by kernel_rfl)) rfl (by kernel_rfl) (by kernel_rfl) (by kernel_rfl) (fun _ _ _ _ h => h) (by rfl) hHeld ?_
                  simp only [List.set_cons_zero, List.set_cons_succ]
                  refine skipV 29 91 (of_decide_eq_true (by kernel_rfl)) rfl (by kernel_rfl) (by kernel_rfl) (by kernel_rfl) (fun _ _ _ _ h => h) (by rfl) hHeld ?_
                  simp only [List.set_cons_zero, List.set_cons_succ]
                  refine takeV 30 92 ?_ (of_decide_eq_true (by kernel_rfl)) rfl (by kernel_rfl) (by kernel_rfl) (by kernel_rfl) (fun _ _ _ _ h => h) (by rfl) hHeld ?_ ?_
                  rotate_left
                  · intro w' hS
                    try dsimp only at hS
                    go_simp
                    try rfl
                  simp only [List.set_cons_zero, List.set_cons_succ]
                  refine takeV 31 93 ?_ (of_decide_eq_true (by kernel_rfl)) rfl (by kernel_rfl) (by kernel_rfl) (by kernel_rfl) (fun _ _ _ _ h => h) (by rfl) hHeld ?_ ?_
                  rotate_left
                  · intro w' hS
                    try dsimp only at hS
                    go_simp
                    try rfl
                  simp only [List.set_cons_zero, List.set_cons_succ]
                  refine wpAnyH_done (by kernel_rfl) ?_ _
                  have HC := Lib.hid (HV0.out _ hHeld.1 (HBAD.out hs1 hs2 (by simp at hs4; intro h; exact hs4 h.2.1)))
                  have hBz := Lib.hid hHeld.2.2.2.2
                  clear hHeld c0 c1 c2 c3 qA qB qC hs1 hs2
                  go_wp2_with (
                     go_at_call 8
                     refine Calls.mono HC.out ?_
                     rintro e wz ⟨rfl, hBy⟩
                     have HBy := Lib.hid (hBz.out.grown (grown_of_below hBy none) hBz.out.size (by simp))
                     clear hBy)
                  go_ret
                  exact ⟨rfl, HBy.out⟩
                case true =>
                  refine takeV 26 88 ?_ (of_decide_eq_true (by kernel_rfl)) rfl (by kernel_rfl) (by kernel_rfl) (by kernel_rfl) (fun _ _ _ _ h => h) (by rfl) hHeld ?_ ?_
                  rotate_left
                  · intro w' hS
                    try dsimp only at hS
                    go_simp
                    try rfl
                  simp only [List.set_cons_zero, List.set_cons_succ]
                  refine takeV 27 89 ?_ (of_decide_eq_true (by kernel_rfl)) rfl (by kernel_rfl) (by kernel_rfl) (by kernel_rfl) (fun _ _ _ _ h => h) (by rfl) hHeld ?_ ?_
                  rotate_left
                  · intro w' hS
                    try dsimp only at hS
                    go_simp
                    try rfl
                  simp only [List.set_cons_zero, List.set_cons_succ]
                  refine takeV 28 90 ?_ (of_decide_eq_true (by kernel_rfl)) rfl (by kernel_rfl) (by kernel_rfl) (by kernel_rfl) (fun _ _ _ _ h => h) (by rfl) hHeld ?_ ?_
                  rotate_left
                  · intro w' hS
                    try dsimp only at hS
                    go_simp
                    try rfl
                  simp only [List.set_cons_zero, List.set_cons_succ]
                  refine takeV 29 91 ?_ (of_decide_eq_true (by kernel_rfl)) rfl (by kernel_rfl) (by kernel_rfl) (by kernel_rfl) (fun _ _ _ _ h => h) (by rfl) hHeld ?_ ?_
                  rotate_left
                  · intro w' hS
                    try dsimp only at hS
                    go_simp
                    try rfl
                  simp only [List.set_cons_zero, List.set_cons_succ]
                  generalize hs5 : (b3 == 24) = t5
                  refine takeV 30 92 ?_ (of_decide_eq_true (by kernel_rfl)) rfl (by kernel_rfl) (by kernel_rfl) (by kernel_rfl) (fun _ _ _ _ h => h) (by rfl) hHeld ?_ ?_
                  rotate_left
                  · intro w' hS
                    try dsimp only at hS
                    go_simp
                    try rfl
                  simp only [List.set_cons_zero, List.set_cons_succ]
                  refine takeV 31 93 ?_ (of_decide_eq_true (by kernel_rfl)) rfl (by kernel_rfl) (by kernel_rfl) (by kernel_rfl) (fun _ _ _ _ h => h) (by rfl) hHeld ?_ ?_
                  rotate_left
                  · intro w' hS
                    try dsimp only at hS
                    go_simp
                    try rfl
                  simp only [List.set_cons_zero, List.set_cons_succ]
                  cases t5
                  case false =>
                    refine wpAnyH_done (by kernel_rfl) ?_ _
                    have HC := Lib.hid (HV0.out _ hHeld.1 (HBAD.out hs1 hs2 (by simp at hs5; intro h; exact hs5 h.2.2)))
                    have hBz := Lib.hid hHeld.2.2.2.2
                    clear hHeld c0 c1 c2 c3 qA qB qC hs1 hs2
                    go_wp2_with (
                       go_at_call 8
                       refine Calls.mono HC.out ?_
                       rintro e wz ⟨rfl, hBy⟩
                       have HBy := Lib.hid (hBz.out.grown (grown_of_below hBy none) hBz.out.size (by simp))
                       clear hBy)
                    go_ret
                    exact ⟨rfl, HBy.out⟩
                  case true =>
                    refine wpAnyH_done (by kernel_rfl) ?_ _
                    have hBz := Lib.hid hHeld.2.2.2.2
                    clear hHeld c0 c1 c2 c3 qA qB qC
                    go_wp2
                    go_ret
                    exact ⟨rfl, hBz.out⟩
theorem walk3 {n by_ : Int} {ad : Option Addr} {len cp : Nat} {S : Nat → Int} {l : Bool} {w : World} (hn : 0 ≤ n ∧ n ≤ 4294967295) (hby : 0 ≤ by_ ∧ by_ ≤ 4294967295) (hm : Mem w .u8 ad len cp S) (hS : ∀ i, 0 ≤ S i ∧ S i ≤ 255) :
    Calls Tryd.prog 3 #[.int .u32 n, .slice ad len cp, .bool l, .int .u32 by_] w fun e w' => e = .returned (.bool true) ∧ Below w.heap.size w w' := by
  by_cases hl : 4096 < len
  · exact walk3_long hl
  · obtain ⟨xs, rfl, hmx, hxs⟩ := memL_of_mem hm
    exact walk3c hn hby hmx (fun u hu => by obtain ⟨i, rfl⟩ := hxs u hu; exact hS i) (by omega)
end Go.Proofs.YtbadknelbdkpmaaDoor
