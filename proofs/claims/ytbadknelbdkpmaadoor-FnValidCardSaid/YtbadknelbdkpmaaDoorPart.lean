/-
  spec.Frame.Part.
-/
import Derived.Test.YtbadknelbdkpmaaDoorCut
import Derived.Test.YtbadknelbdkpmaaDoorSpecAny
namespace Go.Proofs.YtbadknelbdkpmaaDoor
open Go.RowKit
set_option linter.unusedVariables false
set_option maxHeartbeats 1000000
set_option maxRecDepth 20000
/-- the sum of a list of bytes -/
def sumB (xs : List Int) : Int := sumOf (fun i => xs.getD i 0) xs.length
theorem sumB_bd (xs : List Int) : 0 ≤ sumB xs ∧ sumB xs ≤ 4294967295 := sumOf_bd _ _
theorem memL_sum {w : World} {a : Option Addr} {c : Nat} {xs : List Int} (hm : MemL w a c xs) (hx : ∀ u ∈ xs, 0 ≤ u ∧ u ≤ 255) (hl : xs.length ≤ 65536) :
    Calls Tryd.prog 13 #[.slice a xs.length c, .int .u32 0] w fun e w' => e = .returned (.int .u32 (sumB xs)) ∧ Below w.heap.size w w' :=
  ssum_any a xs.length c _ (getD_range hx) hl w hm
theorem range_app {xs ys : List Int} (h : ∀ u ∈ xs, 0 ≤ u ∧ u ≤ 255) (h2 : ∀ u ∈ ys, 0 ≤ u ∧ u ≤ 255) : ∀ u ∈ xs ++ ys, 0 ≤ u ∧ u ≤ 255 := fun u hu => (List.mem_append.1 hu).elim (h u) (h2 u)
theorem part12 {k : Int} {a b c p : Bool} {ad : Option Addr} {cp : Nat} {xs : List Int} {w : World} (hm : MemL w ad cp xs) (hx : ∀ u ∈ xs, 0 ≤ u ∧ u ≤ 255) (hl : xs.length ≤ 65536) :
    Calls Tryd.prog 12 #[.agg (FrameV k a b c), .slice ad xs.length cp, .bool p] w fun e w' => ∃ val ys, e = .returned val ∧ OwnB w' w.heap.size val ys ∧ ys.length ≤ xs.length + 8 ∧ (∀ u ∈ ys, 0 ≤ u ∧ u ≤ 255) ∧ Below w.heap.size w w' := by
  have HM := Lib.hid hm
  have HX := Lib.hid hx
  have HW : Hid (∀ x : Int, 0 ≤ bits .or .u32 x 2147483648 ∧ bits .or .u32 x 2147483648 ≤ 4294967295) := Lib.hid (fun x => wrap_bd _)
  clear hm hx
  unfold FrameV
  go_enter Tryd.func12, Tryd.ntmps12
  have HV := HW.out (xs.length : Int)
  have HV2 := Lib.hid (HW.out (xs.length : Int))
  have hb := Lib.hid (show BoxF (w.alloc (.cells #[.int .i64 k, .bool true, .bool a, .bool b, .bool c] 26)) w.heap.size k a b c from heap_alloc_new w _)
  have hB := Lib.hid (show Below w.heap.size w (w.alloc (.cells #[.int .i64 k, .bool true, .bool a, .bool b, .bool c] 26)) from (Below.refl _ w).alloc (Nat.le_refl _) _)
  generalize hT : bits .or .u32 (xs.length : Int) 2147483648 = T at HV
  have HT := Lib.hid hT
  clear hT HV
  cases p <;> cases a
  all_goals
    go_wp2_with (first
      | (go_at_call_of 6 (Value.int .u32 (sumB xs))
         refine Calls.mono (four6o _ (sumB_bd _).1 (sumB_bd _).2 _) ?_
         rintro e w4 ⟨val4, rfl, ho4, hB4⟩
         have HO4 := Lib.hid (HO3.out.below hB4)
         have HB4 := Lib.hid (HB3.out.grown (grown_of_below hB4 none) (Nat.le_of_succ_le hs3.out) (by simp))
         have hs4 := Lib.hid (Nat.le_trans hs3.out (grown_of_below hB4 none).size)
         obtain ⟨a4, c4, rfl, hm4, _⟩ := ho4.mem
         have HM4 := Lib.hid hm4
         clear ho4 hB4 hm4)
      | (go_at_call 6
         refine Calls.mono (four6o _ (by first | exact HV2.out.1 | omega) (by first | exact HV2.out.2 | omega) _) ?_
         rintro e w1 ⟨val, rfl, ho, hB1⟩
         have HO1 := Lib.hid (show OwnB w1 (w.heap.size + 1) val _ by simpa using ho)
         have HB1 := Lib.hid (hB.out.trans (hB1.mono hB.out.size))
         have HX1 := Lib.hid (hb.out.below hB1)
         have hs1 := Lib.hid (show w.heap.size + 1 ≤ w1.heap.size by have := hB1.size; simp at this; omega)
         clear ho hB1)
      | (at_builtin
         refine wpList_append_bytes (base := w.heap.size + 1) (ys := xs) rfl (.tmp 17) (.tmp 18) rfl rfl HO1.out rfl (HM.out.below HB1.out) (by simp [fourB]; omega) hs1.out ?_
         intro v2 w2 own2 hgr2 hat2
         have HB2 := Lib.hid (HB1.out.grown hgr2 (Nat.le_of_succ_le hs1.out) (fun k hk => Nat.le_of_succ_le (HO1.out.lt k hk).1))
         have HX2 := Lib.hid (HX1.out.grown hgr2 (by intro e; have := (HO1.out.lt _ e.symm).1; omega))
         have d2 := HX2.out.c2
         have hs2 := Lib.hid (show w.heap.size + 1 ≤ w2.heap.size from Nat.le_trans hs1.out hgr2.size)
         have HO2 := Lib.hid own2
         clear own2 hgr2 hat2)
      | (go_at_call 13
         refine Calls.mono (memL_sum (HM.out.below HB2.out) HX.out hl) ?_
         rintro e w3 ⟨rfl, hB3⟩
         have HB3 := Lib.hid (HB2.out.grown (grown_of_below hB3 none) (Nat.le_of_succ_le hs2.out) (by simp))
         have HO3 := Lib.hid (HO2.out.below hB3)
         have hs3 := Lib.hid (Nat.le_trans hs2.out (grown_of_below hB3 none).size)
         clear hB3)
      | (at_builtin
         refine wpList_append_bytes (base := w.heap.size + 1) rfl (.tmp 22) (.tmp 25) rfl rfl HO4.out rfl HM4.out (by simp [fourB]; omega) hs4.out ?_
         intro v5 w5 own5 hgr5 hat5
         have HB5 := Lib.hid (HB4.out.grown hgr5 (Nat.le_of_succ_le hs4.out) (fun k hk => Nat.le_of_succ_le (HO4.out.lt k hk).1))
         have HO5 := Lib.hid own5
         clear own5 hgr5 hat5))
  all_goals
    go_ret
    first
      | exact ⟨_, _, rfl, HO5.out.low (Nat.le_succ _), by simp [fourB], range_app (range_app (fourB_range _) HX.out) (fourB_range _), HB5.out⟩
      | exact ⟨_, _, rfl, HO2.out.low (Nat.le_succ _), by simp [fourB], range_app (fourB_range _) HX.out, HB2.out⟩
end Go.Proofs.YtbadknelbdkpmaaDoor
