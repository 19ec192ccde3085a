/-
  Words for memory that a call writes: a block whose N cells hold the values V 0, V 1, .. ('Rowf'); what a store and a copy make of it; that nothing else has turned ('grownBy'). No program in sight.
-/
import Derived.Test.YtkfkbbablgbfoaaRows
import Derived.WalkKit
import Derived.WalkSpells
import Derived.WalkLawsBesides
import Derived.OpenShut
import Derived.Laws.CopyOwn
import Derived.Laws.CopyRow
import Derived.Deep.QuietTactic
import Derived.BigQuiet
import Derived.Lib.Hide
namespace Go.Proofs.Ytkfkbbablgbfoaa
open Go.RowKit
set_option linter.unusedVariables false

/-- block g has N cells, and they hold V 0, V 1, .. -/
def Rowf (w : World) (g : Nat) (t : TypeId) (N : Nat) (V : Nat → Value) : Prop := w.heap[g]? = some (.cells ((List.range N).map V).toArray t (0, 0))
/-- V with m values of S laid in from place off on -/
def upd (V : Nat → Value) (off m : Nat) (S : Nat → Value) : Nat → Value := fun i => if off ≤ i ∧ i < off + m then S (i - off) else V i
/-- V with one value turned -/
def put1 (V : Nat → Value) (j : Nat) (u : Value) : Nat → Value := fun i => if i = j then u else V i

theorem Rowf.congr {w : World} {g : Nat} {t : TypeId} {N : Nat} {V V' : Nat → Value} (h : Rowf w g t N V) (e : ∀ i, i < N → V i = V' i) : Rowf w g t N V' := by
  unfold Rowf at *
  rw [h]
  congr 3
  apply List.map_congr_left
  intro i hi
  exact e i (by simpa using hi)
theorem Rowf.cell {w : World} {g : Nat} {t : TypeId} {N : Nat} {V : Nat → Value} (h : Rowf w g t N V) {j : Nat} (hj : j < N) : w.cell? ⟨g, j, none⟩ = some (V j) := by
  rw [cell_of_row w g j _ t (0, 0) h]
  simp [hj]
theorem Rowf.free {w : World} {g : Nat} {t : TypeId} {N : Nat} {V : Nat → Value} (h : Rowf w g t N V) (j : Nat) : w.frozen? ⟨g, j, none⟩ = false :=
  frozen_of_row w g j _ t h
theorem Rowf.lt {w : World} {g : Nat} {t : TypeId} {N : Nat} {V : Nat → Value} (h : Rowf w g t N V) : g < w.heap.size := (Array.getElem?_eq_some_iff.1 h).1
theorem Rowf.set {w : World} {g : Nat} {t : TypeId} {N : Nat} {V : Nat → Value} (h : Rowf w g t N V) (j : Nat) (u : Value) : Rowf (w.setCell ⟨g, j, none⟩ u) g t N (put1 V j u) := by
  unfold Rowf at *
  rw [heap_setCell_same w g j _ t u h]
  congr 2
  apply Array.ext
  · simp
  · intro i h1 h2
    simp [put1]
    split <;> rename_i hh
    · simp [hh]
    · rw [List.getElem_set_ne (fun e => hh e.symm)]; simp
theorem Rowf.drewN {w : World} {g : Nat} {t : TypeId} {N : Nat} {V : Nat → Value} (h : Rowf w g t N V) (m : Nat) : Rowf (w.drewN m) g t N V := h
theorem Rowf.grown {w w' : World} {g : Nat} {t : TypeId} {N : Nat} {V : Nat → Value} {row : Option Nat} (h : Rowf w g t N V) (hg : w.grownBy w' row) (hr : some g ≠ row) : Rowf w' g t N V := by
  unfold Rowf at *
  rw [hg.block g (Array.getElem?_eq_some_iff.1 h).1 hr]
  exact h
theorem grown_trans {a b c : World} {row : Option Nat} (h : a.grownBy b row) (k : b.grownBy c row) : a.grownBy c row :=
  ⟨k.os.trans h.os, k.tape.trans h.tape, k.output.trans h.output, Nat.le_trans h.size k.size, fun i hi hr => (k.block i (Nat.lt_of_lt_of_le hi h.size) hr).trans (h.block i hi hr)⟩
theorem grown_drewN {a b : World} {row : Option Nat} (h : a.grownBy b row) (m : Nat) : a.grownBy (b.drewN m) row := ⟨h.os, h.tape, h.output, h.size, h.block⟩
theorem grown_set {a b : World} {g : Nat} (h : a.grownBy b (some g)) (j : Nat) (u : Value) : a.grownBy (b.setCell ⟨g, j, none⟩ u) (some g) :=
  grown_trans h ⟨rfl, rfl, rfl, by simp [World.setCell], fun k _ hk => heap_setCell_other b ⟨g, j, none⟩ k u (fun e => hk (by simp [e]))⟩
theorem grown_of_none {a b : World} (h : a.grownBy b none) (row : Option Nat) : a.grownBy b row := ⟨h.os, h.tape, h.output, h.size, fun k hk _ => h.block k hk (by simp)⟩
theorem grown_of_below {a b : World} (h : Below a.heap.size a b) (row : Option Nat) : a.grownBy b row := ⟨h.os, h.tape, h.output, h.size, fun k hk _ => h.block k hk⟩
theorem grown_alloc {a b : World} {row : Option Nat} (h : a.grownBy b row) (o : Obj) : a.grownBy (b.alloc o) row := grown_trans h (World.grownBy_alloc b o row)
theorem grown_cell {a b : World} {row : Option Nat} (h : a.grownBy b row) {p : Addr} {v : Value} (hc : a.cell? p = some v) (hr : some p.block ≠ row) : b.cell? p = some v := h.cell hc hr

/-- what the builtin copy does: m values of S are laid into block g from place off on -/
theorem run_copy_view {P : Program} {w : World} (dT sT ty elem : TypeId) (hu : P.underlying dT = some (.slice elem)) (hsz : (P.info? elem).map (·.size) = some 1)
    (dp sp : Option Addr) (dLen dCap sLen sCap : Nat) (g off : Nat) (t : TypeId) (N m : Nat) (V S : Nat → Value) (hg : Rowf w g t N V) (hm : m = Nat.min sLen dLen)
    (hpos : 0 < m → dp = some ⟨g, off, none⟩ ∧ ∃ b so, sp = some ⟨b, so, none⟩ ∧ ∀ j, j < m → w.cell? ⟨b, so + j, none⟩ = some (S j))
    (hfit : off + m ≤ N) (h1 : ∀ j, j < m → (S j).oneCell' = true) :
    ∃ w', (Builtin.copy_ #[dT, sT] ty #[.slice dp dLen dCap, .slice sp sLen sCap]).run P w = .ok (.int .i64 (m : Int)) w' ∧ Rowf w' g t N (upd V off m S) ∧ w.grownBy w' (some g) := by
  by_cases h0 : m = 0
  · subst h0
    exact ⟨w, run_copy_none (P := P) w dT sT ty elem dp sp dLen dCap sLen sCap hu hsz hm.symm, hg.congr fun i _ => by unfold upd; rw [if_neg (by omega)], World.grownBy.refl _ _⟩
  · obtain ⟨rfl, b, so, rfl, hsrc⟩ := hpos (by omega)
    have hlen : ((List.range m).map S).length = m := by simp
    have hrun := run_copy_row (P := P) w dT sT ty elem g off dLen dCap ⟨b, so, none⟩ sLen sCap _ t ((List.range m).map S) hu hsz hg (by simp [hm]) (by
      intro j v hj
      have hjm : j < m := by
        have := (List.getElem?_eq_some_iff.1 hj).1
        simpa using this
      have e : (⟨b, so, none⟩ : Addr).add j = ⟨b, so + j, none⟩ := by cases j <;> rfl
      rw [e, hsrc j hjm]
      simpa [hjm] using hj) (by simpa using hfit) (by
      intro v hv
      obtain ⟨j, hj, rfl⟩ := List.mem_map.1 hv
      exact h1 j (by simpa using hj))
    have hr := setRow_heap w g _ (((List.range N).map V).toArray.toList.take off ++ ((List.range m).map S) ++ ((List.range N).map V).toArray.toList.drop (off + ((List.range m).map S).length)).toArray t (0, 0) hg
    rw [hlen] at hrun hr
    refine ⟨_, hrun, ?_, ⟨rfl, rfl, rfl, by simp [World.setRow], fun k _ hk => setRow_other w g k _ (fun e => hk (by simp [e]))⟩⟩
    unfold Rowf
    rw [hr]
    congr 2
    apply Array.ext
    · simp; omega
    · intro i hi1 hi2
      have hiN : i < N := by simpa using hi2
      simp only [List.getElem_toArray, List.getElem_map, List.getElem_range, List.append_assoc]
      unfold upd
      by_cases ha : i < off
      · rw [List.getElem_append_left (by simp; omega), if_neg (by omega)]
        simp
      · rw [List.getElem_append_right (by simp; omega)]
        by_cases hb : i < off + m
        · rw [List.getElem_append_left (by simp; omega), if_pos (by omega)]
          simp [Nat.min_eq_left (show off ≤ N by omega)]
        · rw [List.getElem_append_right (by simp; omega), if_neg (by omega)]
          simp [Nat.min_eq_left (show off ≤ N by omega)]
          congr 1
          omega
end Go.Proofs.Ytkfkbbablgbfoaa
