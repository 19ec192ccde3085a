/-
  The state of a running sum (XXHZero): a block of 22 cells: four lanes, the length so far, sixteen bytes, how many of them are used. The contract of Reset.
-/
import Derived.Test.YtkeiahjkbaejiaaView
import Derived.Test.YtkeiahjkbaejiaaPlain
import Derived.Test.YtkeiahjkbaejiaaClone
import Derived.Deep.RegionWith
import Derived.BigRegion
namespace Go.Proofs.Ytkeiahjkbaejiaa
open Go.RowKit
set_option linter.unusedVariables false
/-- the cells of the state -/
def xv (x1 x2 x3 x4 t : Int) (B : Nat → Int) (u : Int) (i : Nat) : Value :=
  match i with
  | 0 => .int .u32 x1
  | 1 => .int .u32 x2
  | 2 => .int .u32 x3
  | 3 => .int .u32 x4
  | 4 => .int .u64 t
  | 21 => .int .i64 u
  | i => .int .u8 (B (i - 5))
def St (w : World) (g : Nat) (x1 x2 x3 x4 t : Int) (B : Nat → Int) (u : Int) : Prop := Rowf w g 44 22 (xv x1 x2 x3 x4 t B u)
section
variable {w : World} {g : Nat} {x1 x2 x3 x4 t : Int} {B : Nat → Int} {u : Int}
theorem St.set0 (h : St w g x1 x2 x3 x4 t B u) (y : Int) : St (w.setCell ⟨g, 0, none⟩ (.int .u32 y)) g y x2 x3 x4 t B u :=
  (Rowf.set h 0 _).congr fun i hi => by
    unfold put1
    by_cases hk : i = 0
    · subst hk; rfl
    · rw [if_neg hk]
      unfold xv
      split <;> first | rfl | omega
theorem St.set1 (h : St w g x1 x2 x3 x4 t B u) (y : Int) : St (w.setCell ⟨g, 1, none⟩ (.int .u32 y)) g x1 y x3 x4 t B u :=
  (Rowf.set h 1 _).congr fun i hi => by
    unfold put1
    by_cases hk : i = 1
    · subst hk; rfl
    · rw [if_neg hk]
      unfold xv
      split <;> first | rfl | omega
theorem St.set2 (h : St w g x1 x2 x3 x4 t B u) (y : Int) : St (w.setCell ⟨g, 2, none⟩ (.int .u32 y)) g x1 x2 y x4 t B u :=
  (Rowf.set h 2 _).congr fun i hi => by
    unfold put1
    by_cases hk : i = 2
    · subst hk; rfl
    · rw [if_neg hk]
      unfold xv
      split <;> first | rfl | omega
theorem St.set3 (h : St w g x1 x2 x3 x4 t B u) (y : Int) : St (w.setCell ⟨g, 3, none⟩ (.int .u32 y)) g x1 x2 x3 y t B u :=
  (Rowf.set h 3 _).congr fun i hi => by
    unfold put1
    by_cases hk : i = 3
    · subst hk; rfl
    · rw [if_neg hk]
      unfold xv
      split <;> first | rfl | omega
theorem St.set4 (h : St w g x1 x2 x3 x4 t B u) (y : Int) : St (w.setCell ⟨g, 4, none⟩ (.int .u64 y)) g x1 x2 x3 x4 y B u :=
  (Rowf.set h 4 _).congr fun i hi => by
    unfold put1
    by_cases hk : i = 4
    · subst hk; rfl
    · rw [if_neg hk]
      unfold xv
      split <;> first | rfl | omega
theorem St.set21 (h : St w g x1 x2 x3 x4 t B u) (y : Int) : St (w.setCell ⟨g, 21, none⟩ (.int .i64 y)) g x1 x2 x3 x4 t B y :=
  (Rowf.set h 21 _).congr fun i hi => by
    unfold put1
    by_cases h21 : i = 21
    · subst h21; rfl
    · rw [if_neg h21]
      unfold xv
      split <;> first | rfl | omega
theorem St.c0 (h : St w g x1 x2 x3 x4 t B u) : w.cell? ⟨g, 0, none⟩ = some (.int .u32 x1) := Rowf.cell h (j := 0) (by omega)
theorem St.c1 (h : St w g x1 x2 x3 x4 t B u) : w.cell? ⟨g, 1, none⟩ = some (.int .u32 x2) := Rowf.cell h (j := 1) (by omega)
theorem St.c2 (h : St w g x1 x2 x3 x4 t B u) : w.cell? ⟨g, 2, none⟩ = some (.int .u32 x3) := Rowf.cell h (j := 2) (by omega)
theorem St.c3 (h : St w g x1 x2 x3 x4 t B u) : w.cell? ⟨g, 3, none⟩ = some (.int .u32 x4) := Rowf.cell h (j := 3) (by omega)
theorem St.c4 (h : St w g x1 x2 x3 x4 t B u) : w.cell? ⟨g, 4, none⟩ = some (.int .u64 t) := Rowf.cell h (j := 4) (by omega)
theorem St.c21 (h : St w g x1 x2 x3 x4 t B u) : w.cell? ⟨g, 21, none⟩ = some (.int .i64 u) := Rowf.cell h (j := 21) (by omega)
theorem St.cB (h : St w g x1 x2 x3 x4 t B u) {j : Nat} (hj : j < 16) : w.cell? ⟨g, 5 + j, none⟩ = some (.int .u8 (B j)) := by
  rw [Rowf.cell h (j := 5 + j) (by omega)]
  unfold xv
  split <;> first | omega | (congr 2; congr 1; omega)
end
theorem reset_any {w : World} {g : Nat} {x1 x2 x3 x4 t : Int} {B : Nat → Int} {u : Int} (h : St w g x1 x2 x3 x4 t B u) :
    Calls Try.prog 29 #[.pointer (some ⟨g, 0, none⟩)] w fun e w' => e = .returned (.tuple #[]) ∧ St w' g 606290984 2246822519 0 1640531535 0 B 0 ∧ w.grownBy w' (some g) := by
  have c0 := h.c0
  have c1 := h.c1
  have c2 := h.c2
  have c3 := h.c3
  have c4 := h.c4
  have c21 := h.c21
  have f0 : ∀ j, w.frozen? ⟨g, j, none⟩ = false := fun j => Rowf.free h j
  have H := Lib.hid h
  clear h
  go_enter Try.func29, Try.ntmps29
  go_wp2
  go_end0
  exact ⟨rfl, (((((H.out.set0 _).set1 _).set2 _).set3 _).set4 _).set21 _, grown_set (grown_set (grown_set (grown_set (grown_set (grown_set (World.grownBy.refl _ _) _ _) _ _) _ _) _ _) _ _) _ _⟩
end Go.Proofs.Ytkeiahjkbaejiaa
