/-
  What the frames hand on of a slice of integers that came in: numbers in their kind's range.
-/
import Derived.Test.YtbadknelbdkpmaaDoorClone
namespace Go.Proofs.YtbadknelbdkpmaaDoor
open Go.RowKit
set_option linter.unusedVariables false
theorem mem_of_came {k : IntKind} {w : World} {a : Option Addr} {len cap : Nat} {zs : List Int} (h : (a = none ∧ len = 0 ∧ cap = 0 ∧ zs = []) ∨
    ∃ x, a = some x ∧ len ≤ cap ∧ cap ≤ maxLen ∧ zs.length = cap ∧ (∀ i, i < zs.length → w.cell? (x.add i) = some (.int k (zs.getD i 0))) ∧ ∀ n ∈ zs, (Lit.int k n).wf = true) :
    Mem w k a len cap (fun i => zs.getD i 0) := by
  rcases h with ⟨rfl, rfl, rfl, rfl⟩ | ⟨x, rfl, hl, hm, hz, hcell, hwz⟩
  · exact ⟨by omega, by omega, .inl rfl⟩
  · unfold maxLen at hm
    refine ⟨hl, by omega, ?_⟩
    by_cases h0 : len = 0
    · exact .inl h0
    · obtain ⟨b, off, spot⟩ := x
      have hc := hcell 0 (by omega)
      have hspot : spot = none := by simpa [Addr.add] using World.cell?_spot hc
      subst hspot
      refine .inr ⟨b, off, rfl, fun i hi => ?_⟩
      rw [← hcell i (by omega)]; cases i <;> rfl
theorem wf_u8 {n : Int} (h : (Lit.int .u8 n).wf = true) : 0 ≤ n ∧ n ≤ 255 := by
  simp [Lit.wf, IntKind.min, IntKind.max, IntKind.bits, IntKind.signed] at h
  omega
theorem wf_u32 {n : Int} (h : (Lit.int .u32 n).wf = true) : 0 ≤ n ∧ n ≤ 4294967295 := by
  simp [Lit.wf, IntKind.min, IntKind.max, IntKind.bits, IntKind.signed] at h
  omega
theorem came_range {k : IntKind} {w : World} {a : Option Addr} {len cap : Nat} {zs : List Int} {m : Int} (hm : 0 ≤ m) (h : (a = none ∧ len = 0 ∧ cap = 0 ∧ zs = []) ∨
    ∃ x, a = some x ∧ len ≤ cap ∧ cap ≤ maxLen ∧ zs.length = cap ∧ (∀ i, i < zs.length → w.cell? (x.add i) = some (.int k (zs.getD i 0))) ∧ ∀ n ∈ zs, (Lit.int k n).wf = true)
    (hk : ∀ n, (Lit.int k n).wf = true → 0 ≤ n ∧ n ≤ m) (i : Nat) : 0 ≤ zs.getD i 0 ∧ zs.getD i 0 ≤ m := by
  rw [List.getD_eq_getElem?_getD]
  cases hi : zs[i]? with
  | none => simpa using hm
  | some u =>
    rcases h with ⟨rfl, rfl, rfl, rfl⟩ | ⟨x, rfl, _, _, _, _, hwz⟩
    · simp at hi
    · exact hk u (hwz u (List.mem_of_getElem? hi))
end Go.Proofs.YtbadknelbdkpmaaDoor
