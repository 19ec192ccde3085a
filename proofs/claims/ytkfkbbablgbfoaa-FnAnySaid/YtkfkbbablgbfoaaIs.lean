/-
  laws.is: two slices of the same bytes are the same.
-/
import Derived.Test.YtkfkbbablgbfoaaCalls1
import Derived.Laws.BytesArg
import Derived.Laws.Strings
namespace Go.Proofs.Ytkfkbbablgbfoaa
open Go.RowKit
set_option linter.unusedVariables false
set_option maxHeartbeats 1000000
theorem mem_string {a : Option Addr} {n c : Nat} {D : Nat → Int} {w : World} (hM : Mem w .u8 a n c D) (xs : List Int) (hl : xs.length = n) (hx : ∀ i, i < n → xs.getD i 0 = D i) :
    (convert 22 9 (.slice a n c)).run Try.prog w = .ok (.string (strOfNums xs)) w := by
  obtain ⟨h1, h2, h3⟩ := hM
  by_cases h0 : n = 0
  · subst h0
    obtain rfl : xs = [] := List.length_eq_zero_iff.1 hl
    rw [run_convert_bytes_string w 22 9 5 a 0 c Try.underlying22 (by kernel_rfl) (by kernel_rfl)]
    cases a <;> simp [Conv.bytesToString, loadCells] <;> rfl
  · rcases h3 with h3 | ⟨b, off, rfl, h4⟩
    · omega
    · exact run_convert_bytes_arg w 22 5 Try.underlying22 (by kernel_rfl) b off n c xs hl (fun i hi => by rw [h4 i hi, hx i hi]) 9 (by kernel_rfl)
theorem is_same {a a2 : Option Addr} {n c c2 : Nat} {w : World} (xs : List Int) (hl : xs.length = n) (h1 : Mem w .u8 a n c (fun i => xs.getD i 0)) (h2 : Mem w .u8 a2 n c2 (fun i => xs.getD i 0)) :
    Calls Try.prog 11 #[.slice a n c, .slice a2 n c2] w fun e w' => e = .returned (.bool true) ∧ w' = w := by
  have q1 := mem_string h1 xs hl (fun _ _ => rfl)
  have q2 := mem_string h2 xs hl (fun _ _ => rfl)
  clear h1 h2
  go_enter Try.func11, Try.ntmps11
  go_wp2
  go_ret
  simp
end Go.Proofs.Ytkfkbbablgbfoaa
