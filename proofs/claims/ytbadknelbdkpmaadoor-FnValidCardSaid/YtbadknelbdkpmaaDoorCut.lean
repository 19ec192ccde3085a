/-
  spec.Cut without ways: one step that holds the bytes alone.
-/
import Derived.Test.YtbadknelbdkpmaaDoorFour
import Derived.Test.YtbadknelbdkpmaaDoorBlock
namespace Go.Proofs.YtbadknelbdkpmaaDoor
open Go.RowKit
set_option linter.unusedVariables false
set_option maxHeartbeats 1000000
set_option maxRecDepth 20000
theorem info31 : (Tryd.prog.info? 31).map (fun i => (i.zero, i.size, i.bytes)) = some (some (.agg #[.slice none 0 0, .int .i64 0, .int .i64 0]), 3, 40) := by kernel_rfl
/-- the step that holds the bytes alone -/
theorem cut11 {b off c : Nat} {xs : List Int} {w : World} (hm : MemL w (some ⟨b, off, none⟩) c xs) (hl : xs.length ≤ 65536) :
    Calls Tryd.prog 11 #[.slice (some ⟨b, off, none⟩) xs.length c, .slice none 0 0] w fun e w' => ∃ g cap, e = .returned (.slice (some ⟨g, 0, none⟩) 1 cap) ∧ 1 ≤ cap ∧ StepsMem w' g [⟨xs, 0, 0⟩] ∧ Below w.heap.size w w' := by
  obtain ⟨i0, hi, hz0, hz1, hz2⟩ := info_parts info31
  have HM := Lib.hid hm
  have hcap := hm.1
  have hcap2 := hm.2.1
  clear hm
  go_enter Tryd.func11, Tryd.ntmps11
  go_wp2
  go_loopw [5, 6, 7] (fun s5 s6 p wr => s5 = .slice (some ⟨w.heap.size, 0, none⟩) 0 0 ∧ s6 = .int .i64 0 ∧ ∃ i : Nat, i ≤ xs.length ∧ p = .int .i64 (i : Int) ∧ ∃ m, wr = (w.alloc (.cells #[] 31)).drewN m)
    (fun _ _ p _ => match p with | .int _ r => xs.length - r.toNat | _ => 0)
  case atStart => exact ⟨rfl, rfl, 0, by omega, rfl, 0, rfl⟩
  case round =>
    obtain ⟨rfl, rfl, i, hil, rfl, m, rfl⟩ := hrel
    by_cases hi2 : i < xs.length
    · have l1 : (i : Int) < (xs.length : Int) := by omega
      go_wp2
      go_loopw [8, 9, 20] (fun s8 s9 p wr => s8 = .int .i64 0 ∧ s9 = .int .i64 0 ∧ p = .int .i64 0 ∧ ∃ m, wr = (w.alloc (.cells #[] 31)).drewN m)
        (fun _ _ _ _ => 0)
      case atStart => exact ⟨rfl, rfl, rfl, m, rfl⟩
      case round =>
        obtain ⟨rfl, rfl, rfl, m, rfl⟩ := hrel
        go_wp2
        refine ⟨⟨rfl, rfl, i + 1, by omega, rfl, _, rfl⟩, ?_⟩
        show xs.length - ((i : Int) + 1).toNat < xs.length - (i : Int).toNat
        omega
    · obtain rfl : i = xs.length := by omega
      have l1 : ¬ (xs.length : Int) < (xs.length : Int) := by omega
      go_wp2_with (
         at_builtin
         refine wpList_append_own_at _ rfl (.tmp 89) (.tmp 94) 32 rfl w.heap.size 31 i0 (.agg #[.slice none 0 0, .int .i64 0, .int .i64 0]) 3 40 Tryd.underlying32 hi hz0 hz1 hz2 rfl (by decide) (.slice (some ⟨w.heap.size, 0, none⟩) 0 0) 0 [] rfl (World.ownsRow.alloc (w := (w.alloc (.cells #[] 31)).drewN m) (World.ownsRow_made w #[] 0 (Nat.le_refl _) (Nat.zero_le _) rfl) _) ⟨w.heap.size + 1, 0, none⟩ 1 1 [.slice (some ⟨b, off, none⟩) xs.length c, .int .i64 0, .int .i64 0] rfl rfl ?qc1 ?qc2 ?qc3 ?qc4 ?qc5 ?_)
      case qc2 => exact ⟨rfl, rfl⟩
      case qc3 => unfold maxLen; omega
      case qc5 => omega
      intro v' w1 hown hgr hnil hat
      try go_wp2
      go_ret
      have e1 : ((w.alloc (Obj.cells #[] 31)).drewN m).heap.size = w.heap.size + 1 := by (show (w.alloc (Obj.cells #[] 31)).heap.size = _; simp)
      have HB0 : Below w.heap.size w ((w.alloc (Obj.cells #[] 31)).drewN m) := below_drewN ((Below.refl _ w).alloc (Nat.le_refl _) _) m
      have HB : Below w.heap.size w w1 := (HB0.alloc (by omega) _).grown hgr (by simp; omega) (by intro k hk; simp [Value.ownBlock] at hk; omega)
      have hM : MemL w1 (some ⟨b, off, none⟩) c xs := HM.out.below HB
      rcases hown.2 with ⟨rfl, h0⟩ | ⟨g, cap, cur, rfl, hb, hg, hnc, hcm, hcs, htake⟩
      · exact absurd rfl hnil
      · refine ⟨g, cap, rfl, hnc, ?_, HB⟩
        have hc : ∀ j : Nat, j < 3 → w1.cell? ⟨g, j, none⟩ = ([Value.slice (some ⟨b, off, none⟩) xs.length c, .int .i64 0, .int .i64 0] : List Value)[j]? := by
          intro j hj
          have := hown.cellAt j (by simpa using hj)
          simpa using this
        intro i s hs
        rcases i with _ | i
        · simp at hs
          subst hs
          refine ⟨some ⟨b, off, none⟩, c, ?_, ?_, ?_, hM⟩
          · simpa using hc 0 (by omega)
          · simpa using hc 1 (by omega)
          · simpa using hc 2 (by omega)
        · simp at hs
end Go.Proofs.YtbadknelbdkpmaaDoor
