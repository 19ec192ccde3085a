/-
  spec.Write in rounds of a thousand bytes, without ways and without marks.
-/
import Derived.Test.YtbadknelbdkpmaaDoorHead
namespace Go.Proofs.YtbadknelbdkpmaaDoor
open Go.RowKit
set_option linter.unusedVariables false
set_option maxHeartbeats 2000000
set_option maxRecDepth 20000
theorem memL_sub {w : World} {b off c : Nat} {xs : List Int} (h : MemL w (some ⟨b, off, none⟩) c xs) (t m : Nat) (htm : t + m ≤ xs.length) (h0 : 0 < m) : MemL w (some ⟨b, off + t, none⟩) (c - t) ((xs.drop t).take m) := by
  obtain ⟨h1, h2, h3⟩ := h
  have hl : ((xs.drop t).take m).length = m := by simp; omega
  refine ⟨by omega, by omega, .inr ⟨b, off + t, rfl, fun i hi => ?_⟩⟩
  rcases h3 with h3 | ⟨b', off', e, hc⟩
  · omega
  · cases e
    have := hc (t + i) (by omega)
    rw [← Nat.add_assoc] at this
    rw [this]
    have hi2 : i < m := by omega
    simp [List.getD_eq_getElem?_getD, hi2]
theorem cut11N {b off c n : Nat} {ad : Option Addr} {xs : List Int} {w : World} (hm : MemL w (some ⟨b, off, none⟩) c xs) (hl : xs.length ≤ 65536) (had : ad = some ⟨b, off, none⟩) (hn : n = xs.length) :
    Calls Tryd.prog 11 #[.slice ad n c, .slice none 0 0] w fun e w' => ∃ g cap, e = .returned (.slice (some ⟨g, 0, none⟩) 1 cap) ∧ 1 ≤ cap ∧ StepsMem w' g [⟨xs, 0, 0⟩] ∧ Below w.heap.size w w' := by
  subst hn
  subst had
  exact cut11 hm hl
/-- a list of one step without a match, written -/
theorem pack7 {g cap : Nat} {xs : List Int} {w : World} (h : StepsMem w g [⟨xs, 0, 0⟩]) (hc : 1 ≤ cap) (hx : ∀ u ∈ xs, 0 ≤ u ∧ u ≤ 255) (hl : xs.length ≤ 10000) :
    Calls Tryd.prog 7 #[.slice (some ⟨g, 0, none⟩) 1 cap] w fun e w' => ∃ P a c, e = .returned (.slice a P.length c) ∧ MemL w' a c P ∧ P.length ≤ 2 * xs.length + 6 ∧ (∀ u ∈ P, 0 ≤ u ∧ u ≤ 255) ∧ Below w.heap.size w w' := by
  refine Calls.mono (block14 g cap [⟨xs, 0, 0⟩] w h hc (by simp) ?_) ?_
  · intro i s hs
    rcases i with _ | i
    · simp at hs; subst hs; exact ⟨by simpa using (by omega : xs.length ≤ 1000000), by simp, by simp⟩
    · simp at hs
  · rintro e w' ⟨a, c, rfl, hm, ho, hB⟩
    refine ⟨_, a, c, rfl, hm, ?_, written_range _ ?_, hB⟩
    · have := encStep_length ⟨xs, 0, 0⟩
      simpa [written] using this
    · intro s hs u hu
      simp at hs
      subst hs
      exact hx u hu
theorem write4 {k : Int} {a b c : Bool} {ad : Option Addr} {cp : Nat} {xs : List Int} {w : World} (hk : 4 ≤ k ∧ k ≤ 7) (hm : MemL w ad cp xs) (hx : ∀ u ∈ xs, 0 ≤ u ∧ u ≤ 255) (hl : xs.length ≤ 4096) :
    Calls Tryd.prog 4 #[.agg (FrameV k a b c), .slice ad xs.length cp, .int .i64 1000, .slice none 0 0, .slice none 0 0] w fun e w' => ∃ val rest, e = .returned val ∧ OwnB w' w.heap.size val (headL k a b c (xs.length : Int) ++ rest) ∧ rest.length ≤ 20000 ∧ (∀ u ∈ rest, 0 ≤ u ∧ u ≤ 255) ∧ Below w.heap.size w w' := by
  have HM := Lib.hid hm
  have HX := Lib.hid hx
  have hcap := hm.1
  have hcap2 := hm.2.1
  have hhl : (headL k a b c (xs.length : Int)).length ≤ 20 := by unfold headL midOf; cases b <;> simp [fourB]
  clear hm hx
  unfold FrameV
  go_enter Tryd.func4, Tryd.ntmps4
  have hb := Lib.hid (show BoxF (w.alloc (.cells #[.int .i64 k, .bool true, .bool a, .bool b, .bool c] 26)) w.heap.size k a b c from heap_alloc_new w _)
  have hB := Lib.hid (show Below w.heap.size w (w.alloc (.cells #[.int .i64 k, .bool true, .bool a, .bool b, .bool c] 26)) from (Below.refl _ w).alloc (Nat.le_refl _) _)
  go_wp2_with (first
    | (go_at_call 9
       refine Calls.mono (head9 (k := k) (a := a) (b := b) (c := c) hk (by omega)) ?_
       rintro e w1 ⟨val, rfl, ho, hB1⟩
       have HO1 := Lib.hid (show OwnB w1 (w.heap.size + 1) val _ by simpa using ho)
       have HB1 := Lib.hid (hB.out.trans (hB1.mono hB.out.size))
       have HX1 := Lib.hid (hb.out.below hB1)
       have e0 := HX1.out.c0
       have hs1 := Lib.hid (show w.heap.size + 1 ≤ w1.heap.size by have := hB1.size; simp at this; omega)
       clear ho hB1)
    | (go_at_call 10
       refine Calls.mono (most10 k hk.1 hk.2 _) ?_
       rintro e w2 ⟨M, hM1, hM2, rfl, rfl⟩
       have hM3 : ¬ M < 1000 := by omega))
  go_loopw [11, 12, 13] (fun s11 s12 p wr => ∃ i : Nat, i ≤ 5 ∧ 1000 * i ≤ xs.length + 999 ∧ s12 = .int .i64 (i : Int) ∧ p = .int .i64 ((1000 * i : Nat) : Int) ∧
      Hid (∃ rest, OwnB wr (w.heap.size + 1) s11 (headL k a b c (xs.length : Int) ++ rest) ∧ rest.length ≤ 2100 * i ∧ ∀ u ∈ rest, 0 ≤ u ∧ u ≤ 255) ∧ Hid (BoxF wr w.heap.size k a b c) ∧ Hid (Below w.heap.size w wr) ∧ Hid (w.heap.size + 1 ≤ wr.heap.size))
    (fun _ _ p _ => match p with | .int _ r => xs.length + 1000 - r.toNat | _ => 0)
  case atStart => exact ⟨0, by omega, by omega, rfl, rfl, ⟨[], by simpa using HO1.out, by simp, by simp⟩, HX1, HB1, hs1⟩
  case round =>
    obtain ⟨i, hi5, hi, rfl, rfl, HR, HX0, HB0, hs0⟩ := hrel
    obtain ⟨rest, ho0, hrl, hrr⟩ := HR.out
    have HO0 := Lib.hid ho0
    have HRR := Lib.hid hrr
    clear HR ho0 hrr HO1 HX1 hs1 e0 hb hB HB1
    have e0 := HX0.out.c0
    have e4 := HX0.out.c4
    by_cases hlt : 1000 * i < xs.length
    · have l1 : ((1000 * i : Nat) : Int) < (xs.length : Int) := by omega
      obtain ⟨m, hm0, hm1, hm2⟩ : ∃ m : Nat, 0 < m ∧ m ≤ 1000 ∧ ((1000 * i + m = xs.length ∧ ¬ 1000 * i + 1000 < xs.length) ∨ (m = 1000 ∧ 1000 * i + 1000 < xs.length)) := by
        by_cases h : 1000 * i + 1000 < xs.length
        · exact ⟨1000, by omega, by omega, .inr ⟨rfl, h⟩⟩
        · exact ⟨xs.length - 1000 * i, by omega, by omega, .inl ⟨by omega, h⟩⟩
      have hmm : 1000 * i + m ≤ xs.length := by omega
      obtain ⟨bb, off, rfl⟩ : ∃ bb off, ad = some ⟨bb, off, none⟩ := by
        rcases HM.out.2.2 with h | ⟨bb, off, h, _⟩
        · omega
        · exact ⟨bb, off, h⟩
      have hlen : Hid (((xs.drop (1000 * i)).take m).length = m) := Lib.hid (by simp; omega)
      go_wp2_with (first
        | (go_at_call 11
           refine Calls.mono (cut11N (memL_sub (HM.out.below HB0.out) (1000 * i) m hmm hm0) (by rw [hlen.out]; omega) (by first | rfl | simp [Addr.add]) (by rw [hlen.out]; omega)) ?_
           rintro e w3 ⟨g, cap, rfl, hc1, hst, hB3⟩
           have HST := Lib.hid hst
           have HX3 := Lib.hid (HX0.out.below hB3)
           have HO3 := Lib.hid (HO0.out.below hB3)
           have HB3 := Lib.hid (HB0.out.grown (grown_of_below hB3 none) (Nat.le_of_succ_le hs0.out) (by simp))
           have hs3 := Lib.hid (Nat.le_trans hs0.out (grown_of_below hB3 none).size)
           clear hst hB3)
        | (go_at_call 7
           refine Calls.mono (pack7 HST.out hc1 (fun u hu => HX.out u (List.mem_of_mem_drop (List.mem_of_mem_take hu))) (by rw [hlen.out]; omega)) ?_
           rw [hlen.out]
           rintro e w5 ⟨P, a5, c5, rfl, hm5, hl5, hr5, hB5⟩
           have HM5 := Lib.hid hm5
           have HR5 := Lib.hid hr5
           have HX5 := Lib.hid (HX3.out.below hB5)
           have f0 := HX5.out.c0
           have f1 := HX5.out.c1
           have f2 := HX5.out.c2
           have f3 := HX5.out.c3
           have f4 := HX5.out.c4
           have HO5 := Lib.hid (HO3.out.below hB5)
           have HB5 := Lib.hid (HB3.out.grown (grown_of_below hB5 none) (Nat.le_of_succ_le hs3.out) (by simp))
           have hs5 := Lib.hid (Nat.le_trans hs3.out (grown_of_below hB5 none).size)
           clear hm5 hr5 hB5)
        | (go_at_call 10
           refine Calls.mono (most10 k hk.1 hk.2 _) ?_
           rintro e w6 ⟨M2, hM21, hM22, rfl, rfl⟩
           have hM23 : (P.length : Int) ≤ M2 := by omega)
        | (go_at_call 12
           refine Calls.mono (part12 (k := k) (a := a) (b := b) (c := c) (p := true) HM5.out HR5.out (by omega)) ?_
           rintro e w7 ⟨val7, ys, rfl, ho7, hl7, hr7, hB7⟩
           have HX7 := Lib.hid (HX5.out.below hB7)
           have HO7 := Lib.hid (HO5.out.below hB7)
           have HB7 := Lib.hid (HB5.out.grown (grown_of_below hB7 none) (Nat.le_of_succ_le hs5.out) (by simp))
           have hs7 := Lib.hid (Nat.le_trans hs5.out (grown_of_below hB7 none).size)
           have HR7 := Lib.hid hr7
           obtain ⟨a7, c7, rfl, hm7, _⟩ := ho7.mem
           have HM7 := Lib.hid hm7
           clear ho7 hr7 hB7 hm7)
        | (at_builtin
           refine wpList_append_bytes (base := w.heap.size + 1) rfl (.tmp 71) (.tmp 74) rfl rfl HO7.out rfl HM7.out (by simp; omega) hs7.out ?_
           intro v8 w8 own8 hgr8 hat8
           have HX8 := Lib.hid (HX7.out.grown hgr8 (by intro e; have := (HO7.out.lt _ e.symm).1; omega))
           have HB8 := Lib.hid (HB7.out.grown hgr8 (Nat.le_of_succ_le hs7.out) (fun k hk => Nat.le_of_succ_le (HO7.out.lt k hk).1))
           have hs8 := Lib.hid (Nat.le_trans hs7.out hgr8.size)
           have HO8 := Lib.hid own8
           clear own8 hgr8 hat8))
      all_goals
        refine ⟨⟨i + 1, by omega, by omega, rfl, by congr 1, Lib.hid ⟨rest ++ ys, ?_, ?_, range_app HRR.out HR7.out⟩, HX8, HB8, hs8⟩, ?_⟩
        · have h8 := HO8.out
          rw [List.append_assoc] at h8
          exact h8
        · rw [List.length_append]
          omega
        · show xs.length + 1000 - (1000 * (i : Int) + 1000).toNat < xs.length + 1000 - (((1000 * i : Nat) : Int)).toNat
          omega
    · have l1 : ¬ ((1000 * i : Nat) : Int) < (xs.length : Int) := by omega
      clear e0 e4
      cases c
      all_goals
        go_wp2_with (first
          | (at_builtin
             refine wpList_append_bytes (base := w.heap.size + 1) (ys := [0, 0, 0, 0]) rfl (.tmp 78) (.tmp 79) rfl rfl (HO0.out.alloc _) rfl (memL_made _ [0, 0, 0, 0] (by simp)) (by simp; omega) (by have := hs0.out; simp; omega) ?_
             intro v3 w3 own3 hgr3 hat3
             have HX3 := Lib.hid (BoxF.grown (HX0.out.below ((Below.refl _ _).alloc (Nat.le_refl _) _)) hgr3 (by intro e; have := (HO0.out.lt _ e.symm).1; omega))
             have e4 := HX3.out.c4
             have HB3 := Lib.hid ((HB0.out.alloc HB0.out.size _).grown hgr3 (by have := hs0.out; simp; omega) (fun k hk => Nat.le_of_succ_le (HO0.out.lt k hk).1))
             have hs3 := Lib.hid (show w.heap.size + 1 ≤ w3.heap.size from Nat.le_trans (by have := hs0.out; simp; omega) hgr3.size)
             have HO3 := Lib.hid own3
             clear own3 hgr3 hat3)
          | (go_at_call 13
             refine Calls.mono (memL_sum (HM.out.below HB3.out) HX.out (by omega)) ?_
             rintro e w5 ⟨rfl, hB5⟩
             have HO5 := Lib.hid (HO3.out.below hB5)
             have HB5 := Lib.hid (HB3.out.grown (grown_of_below hB5 none) (Nat.le_of_succ_le hs3.out) (by simp))
             have hs5 := Lib.hid (Nat.le_trans hs3.out (grown_of_below hB5 none).size)
             clear hB5)
          | (go_at_call 6
             refine Calls.mono (four6o _ (sumB_bd _).1 (sumB_bd _).2 _) ?_
             rintro e w7 ⟨val7, rfl, ho7, hB7⟩
             have HO7 := Lib.hid (HO5.out.below hB7)
             have HB7 := Lib.hid (HB5.out.grown (grown_of_below hB7 none) (Nat.le_of_succ_le hs5.out) (by simp))
             have hs7 := Lib.hid (Nat.le_trans hs5.out (grown_of_below hB7 none).size)
             obtain ⟨a7, c7, rfl, hm7, _⟩ := ho7.mem
             have HM7 := Lib.hid hm7
             clear ho7 hB7 hm7)
          | (at_builtin
             refine wpList_append_bytes (base := w.heap.size + 1) rfl (.tmp 83) (.tmp 86) rfl rfl HO7.out rfl HM7.out (by simp [fourB]; omega) hs7.out ?_
             intro v8 w8 own8 hgr8 hat8
             have HB8 := Lib.hid (HB7.out.grown hgr8 (Nat.le_of_succ_le hs7.out) (fun k hk => Nat.le_of_succ_le (HO7.out.lt k hk).1))
             have HO8 := Lib.hid own8
             clear own8 hgr8 hat8))
      · go_ret
        have h3 := HO3.out.low (Nat.le_succ w.heap.size)
        rw [List.append_assoc] at h3
        first
          | exact ⟨_, _, rfl, h3, by simp; omega, range_app HRR.out (by intro u hu; simp at hu; omega), HB3.out⟩
          | exact ⟨_, rfl, _, h3, by simp; omega, range_app HRR.out (by intro u hu; simp at hu; omega), HB3.out⟩
      · go_ret
        have h8 := HO8.out.low (Nat.le_succ w.heap.size)
        rw [List.append_assoc, List.append_assoc, ← List.append_assoc rest] at h8
        first
          | exact ⟨_, _, rfl, h8, by simp [fourB]; omega, range_app (range_app HRR.out (by intro u hu; simp at hu; omega)) (fourB_range _), HB8.out⟩
          | exact ⟨_, rfl, _, h8, by simp [fourB]; omega, range_app (range_app HRR.out (by intro u hu; simp at hu; omega)) (fourB_range _), HB8.out⟩
end Go.Proofs.YtbadknelbdkpmaaDoor
