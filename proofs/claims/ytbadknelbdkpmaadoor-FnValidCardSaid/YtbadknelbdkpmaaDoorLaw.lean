/-
  The plain law of heads: what spec.Write and the old form begin with, the reading takes.
-/
import Derived.Test.YtbadknelbdkpmaaDoorWrite
import Derived.Test.YtbadknelbdkpmaaDoorValid8
namespace Go.Proofs.YtbadknelbdkpmaaDoor
open Go.RowKit
set_option linter.unusedVariables false
set_option maxHeartbeats 1000000
set_option maxRecDepth 20000
theorem tail4_congr {D D' : Nat → Int} (h : Int) : ∀ j, (∀ i, i < 4 * j → D i = D' i) → tail4 D h j = tail4 D' h j
  | 0, _ => rfl
  | j + 1, e => by
    have ih := tail4_congr h j (fun i hi => e i (by omega))
    simp only [tail4, leD]
    rw [ih, e (4 * j) (by omega), e (4 * j + 1) (by omega), e (4 * j + 2) (by omega), e (4 * j + 3) (by omega)]
theorem tail1_congr {D D' : Nat → Int} (h : Int) : ∀ j, (∀ i, i < j → D i = D' i) → tail1 D h j = tail1 D' h j
  | 0, _ => rfl
  | j + 1, e => by
    simp only [tail1]
    rw [tail1_congr h j (fun i hi => e i (by omega)), e j (by omega)]
theorem sumOf_congr {D D' : Nat → Int} {n : Nat} (hn : n < 16) (e : ∀ i, i < n → D i = D' i) : sumOf D n = sumOf D' n := by
  rw [sumOf_small (D := D) (j := n / 4) (i := n % 4) hn (by omega) (by omega) (by omega), sumOf_small (D := D') (j := n / 4) (i := n % 4) hn (by omega) (by omega) (by omega),
    tail4_congr _ _ (fun i hi => e i (by omega)), tail1_congr _ _ (fun i hi => e (4 * (n / 4) + i) (by omega))]
theorem flags_ok (k : Int) (hk : k = 4 ∨ k = 5 ∨ k = 6 ∨ k = 7) (a b c : Bool) : ∃ D : Nat, (D : Int) = flagAt a b c 4 + 256 * (k * 16) ∧ D % 2 = 0 ∧ D / 64 % 4 = 1 ∧ bits .and .u16 (D : Int) 36610 = 0 ∧ 4 ≤ D / 4096 % 8 ∧ D / 8 % 2 = (if b then 1 else 0) := by
  refine ⟨(flagAt a b c 4 + 256 * (k * 16)).toNat, ?_⟩
  rcases hk with rfl | rfl | rfl | rfl <;> cases a <;> cases b <;> cases c <;> decide
theorem sumB_at {L : List Int} {S : Nat → Int} (hl : L.length < 16) (h : ∀ i, i < L.length → L.getD i 0 = S (4 + i)) : sumB L / 256 % 256 = sumOf (fun i => S (4 + i)) L.length / 256 % 256 := by
  unfold sumB
  rw [sumOf_congr hl h]
theorem magic_new : le4 4 34 77 24 = 407708164 := by kernel_rfl
theorem magic_old : le4 2 33 76 24 = 407642370 := by kernel_rfl
theorem head_ok {k n : Int} {a b c : Bool} {rest : List Int} (hk : 4 ≤ k ∧ k ≤ 7) : HeadOk (fun j => (headL k a b c n ++ rest).getD j 0) (headL k a b c n ++ rest).length := by
  obtain ⟨D, hD, h2, h64, hres, hbl, h8⟩ := flags_ok k (by omega) a b c
  generalize hF : flagAt a b c 4 = F at hD
  cases b
  · have e : headL k a false c n ++ rest = [4, 34, 77, 24, F, k * 16, sumB [F, k * 16] / 256 % 256] ++ rest := by simp [headL, midOf, fourB, hF]
    rw [e]
    refine ⟨by simp, .inr ⟨magic_new, D, ?_, h2, h64, hres, hbl, .inl ⟨h8, by simp, ?_⟩⟩⟩
    · simpa using hD
    · refine sumB_at (L := [F, k * 16]) (S := fun j => ([4, 34, 77, 24, F, k * 16, sumB [F, k * 16] / 256 % 256] ++ rest).getD j 0) (by simp) ?_
      intro i hi
      have hi2 : i = 0 ∨ i = 1 := by simp at hi; omega
      rcases hi2 with rfl | rfl <;> rfl
  · have e : headL k a true c n ++ rest = [4, 34, 77, 24, F, k * 16, n % 256, n / 256 % 256, n / 65536 % 256, n / 16777216 % 256, 0, 0, 0, 0, sumB [F, k * 16, n % 256, n / 256 % 256, n / 65536 % 256, n / 16777216 % 256, 0, 0, 0, 0] / 256 % 256] ++ rest := by simp [headL, midOf, fourB, hF]
    rw [e]
    refine ⟨by simp, .inr ⟨magic_new, D, ?_, h2, h64, hres, hbl, .inr ⟨h8, by simp, ?_⟩⟩⟩
    · simpa using hD
    · refine sumB_at (L := [F, k * 16, n % 256, n / 256 % 256, n / 65536 % 256, n / 16777216 % 256, 0, 0, 0, 0]) (S := fun j => ([4, 34, 77, 24, F, k * 16, n % 256, n / 256 % 256, n / 65536 % 256, n / 16777216 % 256, 0, 0, 0, 0, sumB [F, k * 16, n % 256, n / 256 % 256, n / 65536 % 256, n / 16777216 % 256, 0, 0, 0, 0] / 256 % 256] ++ rest).getD j 0) (by simp) ?_
      intro i hi
      have hi2 : i = 0 ∨ i = 1 ∨ i = 2 ∨ i = 3 ∨ i = 4 ∨ i = 5 ∨ i = 6 ∨ i = 7 ∨ i = 8 ∨ i = 9 := by simp at hi; omega
      rcases hi2 with rfl | rfl | rfl | rfl | rfl | rfl | rfl | rfl | rfl | rfl <;> rfl
/-- the old form's beginning -/
theorem old_ok (P : List Int) : HeadOk (fun j => (fourB 407642370 ++ P).getD j 0) (fourB 407642370 ++ P).length :=
  ⟨by simp [fourB], .inl magic_old⟩
theorem headL_range {k n : Int} {a b c : Bool} (hk : 4 ≤ k ∧ k ≤ 7) : ∀ u ∈ headL k a b c n, 0 ≤ u ∧ u ≤ 255 := by
  have hF := flagAt_bd a b c
  unfold headL midOf
  refine range_app (fourB_range _) (range_app (range_app ?_ ?_) ?_)
  · intro u hu; simp at hu; omega
  · cases b
    · intro u hu; simp at hu
    · exact range_app (fourB_range _) (by intro u hu; simp at hu; omega)
  · intro u hu; simp at hu; omega
end Go.Proofs.YtbadknelbdkpmaaDoor
