/-
  The plain law of changed heads: bytes that begin with neither magic, nor with a skipped frame's, no reading takes.
-/
import Derived.Test.YtbadknelbdkpmaaDoorValid8
import Derived.Test.YtbadknelbdkpmaaDoorFour
import Derived.Laws.BytesArg
namespace Go.Proofs.YtbadknelbdkpmaaDoor
open Go.RowKit
set_option linter.unusedVariables false
set_option maxHeartbeats 1000000
theorem head_bad {L : List Int} (h4 : 4 ≤ L.length) (hr : ∀ u ∈ L, 0 ≤ u ∧ u ≤ 255)
    (h1 : ((strOfNums (L.take 4)).toList == (strOfNums (fourB 407642370)).toList) = false)
    (h2 : ((strOfNums (L.take 4)).toList == (strOfNums (fourB 407708164)).toList) = false)
    (h3 : ¬ (L.getD 1 0 = 42 ∧ L.getD 2 0 = 77 ∧ L.getD 3 0 = 24)) : HeadBad (fun j => L.getD j 0) L.length := by
  obtain ⟨a, b, c, d, rest, rfl⟩ : ∃ a b c d rest, L = a :: b :: c :: d :: rest := by
    rcases L with _ | ⟨a, _ | ⟨b, _ | ⟨c, _ | ⟨d, rest⟩⟩⟩⟩ <;> simp at h4
    exact ⟨a, b, c, d, rest, rfl⟩
  have ha := hr a (by simp)
  have hb := hr b (by simp)
  have hc := hr c (by simp)
  have hd := hr d (by simp)
  have e := le4_num a b c d ha hb hc hd
  refine ⟨h4, _, rfl, ?_, ?_, ?_⟩
  · show (le4 a b c d == 407708164) = false
    rw [e]
    cases hq : (a + 256 * b + 65536 * c + 16777216 * d == 407708164)
    · rfl
    · have hq2 : a + 256 * b + 65536 * c + 16777216 * d = 407708164 := by simpa using hq
      obtain rfl : a = 4 := by omega
      obtain rfl : b = 34 := by omega
      obtain rfl : c = 77 := by omega
      obtain rfl : d = 24 := by omega
      simp [fourB] at h2
  · show (le4 a b c d == 407642370) = false
    rw [e]
    cases hq : (a + 256 * b + 65536 * c + 16777216 * d == 407642370)
    · rfl
    · have hq2 : a + 256 * b + 65536 * c + 16777216 * d = 407642370 := by simpa using hq
      obtain rfl : a = 2 := by omega
      obtain rfl : b = 33 := by omega
      obtain rfl : c = 76 := by omega
      obtain rfl : d = 24 := by omega
      simp [fourB] at h1
  · show (le4 a b c d / 256 == 1592618) = false
    rw [e]
    cases hq : ((a + 256 * b + 65536 * c + 16777216 * d) / 256 == 1592618)
    · rfl
    · have hq2 : (a + 256 * b + 65536 * c + 16777216 * d) / 256 = 1592618 := by simpa using hq
      exact absurd ⟨show b = 42 by omega, show c = 77 by omega, show d = 24 by omega⟩ h3
end Go.Proofs.YtbadknelbdkpmaaDoor
