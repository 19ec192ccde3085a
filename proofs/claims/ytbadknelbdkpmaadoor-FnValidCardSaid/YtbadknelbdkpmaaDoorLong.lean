/-
  FnValid's walk at every length: beyond 4096 bytes it returns at once.
-/
import Derived.Test.YtbadknelbdkpmaaDoorFour
namespace Go.Proofs.YtbadknelbdkpmaaDoor
open Go.RowKit
set_option linter.unusedVariables false
set_option maxHeartbeats 1000000
set_option maxRecDepth 20000
theorem walk3_long {n by_ : Int} {ad : Option Addr} {len cp : Nat} {l : Bool} {w : World} (hl : 4096 < len) :
    Calls Tryd.prog 3 #[.int .u32 n, .slice ad len cp, .bool l, .int .u32 by_] w fun e w' => e = .returned (.bool true) ∧ Below w.heap.size w w' := by
  by_cases hb : 2147483647 < len
  · have hb1 : (2147483647 : Int) < (len : Int) := by omega
    go_enter Tryd.func3, Tryd.ntmps3
    go_wp2
    go_ret
    exact ⟨rfl, Below.refl _ _⟩
  · have hb1 : ¬ (2147483647 : Int) < (len : Int) := by omega
    have hb2 : (4096 : Int) < (len : Int) := by omega
    go_enter Tryd.func3, Tryd.ntmps3
    go_wp2
    go_ret
    exact ⟨rfl, Below.refl _ _⟩
/-- what lies in a slice, as a list -/
theorem memL_of_mem {w : World} {ad : Option Addr} {len cp : Nat} {S : Nat → Int} (hm : Mem w .u8 ad len cp S) : ∃ xs : List Int, xs.length = len ∧ MemL w ad cp xs ∧ ∀ u ∈ xs, ∃ i, u = S i := by
  refine ⟨(List.range len).map S, by simp, ?_, ?_⟩
  · obtain ⟨h1, h2, h3⟩ := hm
    refine ⟨by simpa using h1, h2, ?_⟩
    rcases h3 with h | ⟨b, o, e, hc⟩
    · exact .inl (by simpa using h)
    · refine .inr ⟨b, o, e, fun i hi => ?_⟩
      have hi2 : i < len := by simpa using hi
      rw [hc i hi2]
      simp [List.getD_eq_getElem?_getD, List.getElem?_map, List.getElem?_range hi2]
  · intro u hu
    obtain ⟨i, _, rfl⟩ := List.mem_map.1 hu
    exact ⟨i, rfl⟩
end Go.Proofs.YtbadknelbdkpmaaDoor
