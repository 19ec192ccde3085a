/-
  spec.Four, spec.Most, frameOf.
-/
import Derived.Test.YtbadknelbdkpmaaDoorOwn
import Derived.Test.YtbadknelbdkpmaaDoorPlain
namespace Go.Proofs.YtbadknelbdkpmaaDoor
open Go.RowKit
set_option linter.unusedVariables false
set_option maxHeartbeats 1000000
set_option maxRecDepth 20000
/-- the four bytes of a number -/
def fourB (v : Int) : List Int := [v % 256, v / 256 % 256, v / 65536 % 256, v / 16777216 % 256]
theorem four6 (v : Int) (h0 : 0 ≤ v) (h1 : v ≤ 4294967295) (w : World) :
    Calls Tryd.prog 6 #[.int .u32 v] w fun e w' => e = .returned (.slice (some ⟨w.heap.size, 0, none⟩) 4 4) ∧ w' = w.alloc (.cells ((fourB v).map (Value.int .u8)).toArray 5) := by
  have e : v / 16777216 % 256 = v / 16777216 := by omega
  go_enter Tryd.func6, Tryd.ntmps6
  go_wp2
  go_ret
  refine ⟨rfl, ?_⟩
  simp [fourB, e]
theorem most10 (b : Int) (h0 : 4 ≤ b) (h1 : b ≤ 7) (w : World) :
    Calls Tryd.prog 10 #[.int .i64 b] w fun e w' => ∃ M : Int, 65536 ≤ M ∧ M ≤ 4194304 ∧ e = .returned (.int .i64 M) ∧ w' = w := by
  have h : b = 4 ∨ b = 5 ∨ b = 6 ∨ b = 7 := by omega
  go_enter Tryd.func10, Tryd.ntmps10
  rcases h with rfl | rfl | rfl | rfl
  all_goals
    go_wp2
    go_ret
    exact ⟨_, by decide, by decide, rfl, rfl⟩
/-- a frame's settings -/
def FrameV (k : Int) (a b c : Bool) : Array Value := #[.int .i64 k, .bool true, .bool a, .bool b, .bool c]
theorem frameOf5 (n : Int) (h0 : 0 ≤ n) (h1 : n ≤ 4294967295) (w : World) :
    Calls Tryd.prog 5 #[.int .u32 n] w fun e w' => (∃ a b c, e = .returned (.agg (FrameV (4 + n % 4) a b c))) ∧ Below w.heap.size w w' := by
  go_enter Tryd.func5, Tryd.ntmps5
  go_wp2
  refine bodyPost_ret (results_cell_row rfl _ _ _ 26 _ (0, 0) _ rfl (heap_alloc_new _ _) Tryd.underlying26 rfl rfl) rfl ?_
  exact ⟨⟨_, _, _, rfl⟩, (Below.refl _ _).alloc (Nat.le_refl _) _⟩
/-- a row just made is the call's own -/
theorem own_made (w : World) (xs : List Int) (base : Nat) (hb : base ≤ w.heap.size) (hn : xs.length ≤ 1099511627776) : OwnB (w.alloc (.cells (xs.map (Value.int .u8)).toArray 5)) base (.slice (some ⟨w.heap.size, 0, none⟩) xs.length xs.length) xs :=
  ⟨by simp, .inr ⟨w.heap.size, xs.length, _, rfl, hb, heap_alloc_new w _, Nat.le_refl _, by unfold maxLen; omega, by simp, by simp [List.take_of_length_le]⟩⟩
theorem own_four (w : World) (v : Int) (base : Nat) (hb : base ≤ w.heap.size) : OwnB (w.alloc (.cells ((fourB v).map (Value.int .u8)).toArray 5)) base (.slice (some ⟨w.heap.size, 0, none⟩) 4 4) (fourB v) :=
  own_made w (fourB v) base hb (by simp [fourB])
/-- its bytes as memory -/
theorem OwnB.mem {w : World} {base : Nat} {v : Value} {xs : List Int} (h : OwnB w base v xs) : ∃ a c, v = .slice a xs.length c ∧ MemL w a c xs ∧ (∀ x, a = some x → base ≤ x.block) := by
  have h2 : w.ownsRow base 5 1 v xs.length (xs.map (Value.int .u8)) := h
  rw [← map_getD] at h2
  exact mem_of_owns h2
theorem OwnB.low {w : World} {base B : Nat} {v : Value} {xs : List Int} (h : OwnB w B v xs) (hb : base ≤ B) : OwnB w base v xs := by
  have h2 : w.ownsRow B 5 1 v xs.length (xs.map (Value.int .u8)) := h
  refine ⟨h2.1, ?_⟩
  rcases h2.2 with h3 | ⟨g, cap, cur, e, h4, h5⟩
  · exact .inl h3
  · exact .inr ⟨g, cap, cur, e, Nat.le_trans hb h4, h5⟩
theorem four6o (v : Int) (h0 : 0 ≤ v) (h1 : v ≤ 4294967295) (w : World) :
    Calls Tryd.prog 6 #[.int .u32 v] w fun e w' => ∃ val, e = .returned val ∧ OwnB w' w.heap.size val (fourB v) ∧ Below w.heap.size w w' :=
  (four6 v h0 h1 w).mono fun e w' ⟨he, hw⟩ => ⟨_, he, hw ▸ own_four w v w.heap.size (Nat.le_refl _), hw ▸ (Below.refl _ w).alloc (Nat.le_refl _) _⟩
theorem sumOf_bd (D : Nat → Int) (n : Nat) : 0 ≤ sumOf D n ∧ sumOf D n ≤ 4294967295 := by
  unfold sumOf fin
  exact wrap_bd _
theorem fourB_range (v : Int) : ∀ u ∈ fourB v, 0 ≤ u ∧ u ≤ 255 := by
  intro u hu
  simp [fourB] at hu
  omega
/-- a frame's settings, in block g -/
def BoxF (w : World) (g : Nat) (k : Int) (a b c : Bool) : Prop := w.heap[g]? = some (.cells (FrameV k a b c) 26 (0, 0))
theorem BoxF.grown {w w' : World} {g : Nat} {k : Int} {a b c : Bool} {row : Option Nat} (h : BoxF w g k a b c) (hg : w.grownBy w' row) (hr : some g ≠ row) : BoxF w' g k a b c := by
  unfold BoxF at *
  rw [hg.block g (Array.getElem?_eq_some_iff.1 h).1 hr]
  exact h
theorem BoxF.below {w w' : World} {g : Nat} {k : Int} {a b c : Bool} (h : BoxF w g k a b c) (hb : Below w.heap.size w w') : BoxF w' g k a b c := h.grown (grown_of_below hb none) (by simp)
theorem BoxF.lt {w : World} {g : Nat} {k : Int} {a b c : Bool} (h : BoxF w g k a b c) : g < w.heap.size := (Array.getElem?_eq_some_iff.1 h).1
theorem BoxF.cell {w : World} {g : Nat} {k : Int} {a b c : Bool} (h : BoxF w g k a b c) (j : Nat) : w.cell? ⟨g, j, none⟩ = (FrameV k a b c)[j]? := cell_of_row w g j _ 26 (0, 0) h
theorem BoxF.c0 {w : World} {g : Nat} {k : Int} {a b c : Bool} (h : BoxF w g k a b c) : w.cell? ⟨g, 0, none⟩ = some (.int .i64 k) := h.cell 0
theorem BoxF.c1 {w : World} {g : Nat} {k : Int} {a b c : Bool} (h : BoxF w g k a b c) : w.cell? ⟨g, 1, none⟩ = some (.bool true) := h.cell 1
theorem BoxF.c2 {w : World} {g : Nat} {k : Int} {a b c : Bool} (h : BoxF w g k a b c) : w.cell? ⟨g, 2, none⟩ = some (.bool a) := h.cell 2
theorem BoxF.c3 {w : World} {g : Nat} {k : Int} {a b c : Bool} (h : BoxF w g k a b c) : w.cell? ⟨g, 3, none⟩ = some (.bool b) := h.cell 3
theorem BoxF.c4 {w : World} {g : Nat} {k : Int} {a b c : Bool} (h : BoxF w g k a b c) : w.cell? ⟨g, 4, none⟩ = some (.bool c) := h.cell 4
end Go.Proofs.YtbadknelbdkpmaaDoor
