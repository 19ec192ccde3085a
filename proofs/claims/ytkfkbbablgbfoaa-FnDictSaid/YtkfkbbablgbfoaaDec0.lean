/-
  Small laws for the block decoder: slice expressions by unsigned bounds, in range and out of range; the number of two bytes. They hold for every slice.
-/
import Derived.Test.YtkfkbbablgbfoaaView
import Derived.RegionDies
import Derived.Recover
import Derived.Defers
namespace Go.Proofs.Ytkfkbbablgbfoaa
open Go.RowKit
set_option linter.unusedVariables false
theorem size22 (w : World) : (Go.sizeOf (Try.prog.elem 22)).run Try.prog w = .ok 1 w := by kernel_rfl
theorem und22 : Try.prog.underlying 22 = some (.slice (Try.prog.elem 22)) := by kernel_rfl
theorem cells5 : (Try.prog.info? 5).map (·.size) = some 1 := by kernel_rfl
/-- a panic of Go's own: some value of an interface type -/
def Raised (v : Value) : Prop := ∃ u x, v = .iface u x
theorem bounds_u64 {α : Type} (x y : Int) (code : BoundsCode) : ∃ v, Raised v ∧ ∀ w, (boundsPanic .u64 x y code : Sem α).run Try.prog w = .halt (.panic v) w := by
  refine ⟨boundsValue Try.prog (IntKind.i64.wrap x) y false code.toNat, ⟨_, _, rfl⟩, fun w => ?_⟩
  unfold boundsPanic boundsValue
  rw [if_neg (by simp)]
  simp [runtimePanic, goPanic, go_sem]
/-- 's[lo:hi]' in range -/
theorem slice_lh (a : Option Addr) (len cap lo hi : Nat) (l h : Int) (hl : l = (lo : Int)) (hh : h = (hi : Int)) (h1 : lo ≤ hi) (h2 : hi ≤ cap) :
    ∃ A, (∀ w, (Instr.slice 22 (.slice a len cap) (some (.int .u64 l)) (some (.int .u64 h)) none).run Try.prog w = .ok (.slice A (hi - lo) (cap - lo)) w) ∧ (∀ b o, a = some ⟨b, o, none⟩ → 0 < hi - lo → A = some ⟨b, o + lo, none⟩) := by
  subst hl hh
  refine ⟨if cap = lo then a else a.map (·.add (lo * 1)), fun w => ?_, ?_⟩
  · rw [run_slice_lh (P := Try.prog) w 22 a len cap und22 .u64 .u64 (lo : Int) (hi : Int) (by omega) (by omega) (by omega), size22]
    simp [Result.andThen, sliced]
  · intro b o ha hp
    rw [if_neg (by omega), ha]
    simp only [Option.map_some, Nat.mul_one]
    cases lo <;> rfl
/-- 's[lo:]' in range -/
theorem slice_l (a : Option Addr) (len cap lo : Nat) (l : Int) (hl : l = (lo : Int)) (h1 : lo ≤ len) (h2 : len ≤ cap) :
    ∃ A, (∀ w, (Instr.slice 22 (.slice a len cap) (some (.int .u64 l)) none none).run Try.prog w = .ok (.slice A (len - lo) (cap - lo)) w) ∧ (∀ b o, a = some ⟨b, o, none⟩ → 0 < len - lo → A = some ⟨b, o + lo, none⟩) := by
  subst hl
  refine ⟨if cap = lo then a else a.map (·.add (lo * 1)), fun w => ?_, ?_⟩
  · rw [run_slice_l (P := Try.prog) w 22 a len cap und22 .u64 (lo : Int) (by omega) (by omega), size22]
    simp [Result.andThen, sliced]
  · intro b o ha hp
    rw [if_neg (by omega), ha]
    simp only [Option.map_some, Nat.mul_one]
    cases lo <;> rfl
/-- 's[:hi]' in range -/
theorem slice_h (a : Option Addr) (len cap hi : Nat) (h : Int) (hh : h = (hi : Int)) (h2 : hi ≤ cap) :
    ∃ A, (∀ w, (Instr.slice 22 (.slice a len cap) none (some (.int .u64 h)) none).run Try.prog w = .ok (.slice A hi cap) w) ∧ (0 < hi → A = a) := by
  subst hh
  refine ⟨if cap = 0 then a else a.map (·.add (0 * 1)), fun w => ?_, ?_⟩
  · rw [run_slice_h (P := Try.prog) w 22 a len cap und22 .u64 (hi : Int) (by omega) (by omega), size22]
    simp [Result.andThen, sliced]
  · intro hp
    rw [if_neg (by omega)]
    cases a with
    | none => rfl
    | some x => rfl
/-- 's[lo:hi]' out of range -/
theorem slice_lh_out (a : Option Addr) (len cap : Nat) (l h : Int) (ho : h < 0 ∨ (cap : Int) < h ∨ l < 0 ∨ h < l) :
    ∃ v, Raised v ∧ ∀ w, (Instr.slice 22 (.slice a len cap) (some (.int .u64 l)) (some (.int .u64 h)) none).run Try.prog w = .halt (.panic v) w := by
  by_cases hc : 0 ≤ h ∧ h ≤ (cap : Int)
  · obtain ⟨v, hv, hr⟩ := bounds_u64 (α := Nat) l (h.toNat : Int) .sliceB
    refine ⟨v, hv, fun w => ?_⟩
    rw [run_slice_any (P := Try.prog) w 22 a len cap und22]
    simp only [Instr.sliceBounds, Sem.run_bind, Sem.run_pure, Result.andThen]
    rw [run_sliceBound (P := Try.prog) (w := w) .u64 h cap _ hc.1 hc.2]
    simp only
    rw [run_sliceBound_out (P := Try.prog) (w := w) .u64 l h.toNat _ (by omega)]
    rw [show (if (none : Option Value).isSome = true then BoundsCode.slice3C else BoundsCode.sliceB) = BoundsCode.sliceB from rfl, hr]
  · obtain ⟨v, hv, hr⟩ := bounds_u64 (α := Nat) h (cap : Int) .sliceAcap
    refine ⟨v, hv, fun w => ?_⟩
    rw [run_slice_any (P := Try.prog) w 22 a len cap und22]
    simp only [Instr.sliceBounds, Sem.run_bind, Sem.run_pure, Result.andThen]
    rw [run_sliceBound_out (P := Try.prog) (w := w) .u64 h cap _ hc]
    simp [hr]
/-- 's[lo:]' out of range -/
theorem slice_l_out (a : Option Addr) (len cap : Nat) (l : Int) (ho : l < 0 ∨ (len : Int) < l) :
    ∃ v, Raised v ∧ ∀ w, (Instr.slice 22 (.slice a len cap) (some (.int .u64 l)) none none).run Try.prog w = .halt (.panic v) w := by
  obtain ⟨v, hv, hr⟩ := bounds_u64 (α := Nat) l (len : Int) .sliceB
  refine ⟨v, hv, fun w => ?_⟩
  rw [run_slice_any (P := Try.prog) w 22 a len cap und22]
  simp only [Instr.sliceBounds, Sem.run_bind, Sem.run_pure, Result.andThen]
  rw [run_sliceBound_out (P := Try.prog) (w := w) .u64 l len _ (by omega)]
  simp [hr]
/-- 's[:hi]' out of range -/
theorem slice_h_out (a : Option Addr) (len cap : Nat) (h : Int) (ho : h < 0 ∨ (cap : Int) < h) :
    ∃ v, Raised v ∧ ∀ w, (Instr.slice 22 (.slice a len cap) none (some (.int .u64 h)) none).run Try.prog w = .halt (.panic v) w := by
  obtain ⟨v, hv, hr⟩ := bounds_u64 (α := Nat) h (cap : Int) .sliceAcap
  refine ⟨v, hv, fun w => ?_⟩
  rw [run_slice_any (P := Try.prog) w 22 a len cap und22]
  simp only [Instr.sliceBounds, Sem.run_bind, Sem.run_pure, Result.andThen]
  rw [run_sliceBound_out (P := Try.prog) (w := w) .u64 h cap _ (by omega)]
  simp [hr]
end Go.Proofs.Ytkfkbbablgbfoaa
