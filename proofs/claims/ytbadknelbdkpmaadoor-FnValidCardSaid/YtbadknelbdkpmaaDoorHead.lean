/-
  spec.Frame.Head.
-/
import Derived.Test.YtbadknelbdkpmaaDoorPart
namespace Go.Proofs.YtbadknelbdkpmaaDoor
open Go.RowKit
set_option linter.unusedVariables false
set_option maxHeartbeats 2000000
set_option maxRecDepth 20000
/-- the flags behind i looks -/
def flagAt (a b c : Bool) (i : Nat) : Int := 64 + (if 0 < i ∧ c = true then 4 else 0) + (if 1 < i ∧ b = true then 8 else 0) + (if 2 < i ∧ a = true then 16 else 0) + (if 3 < i then 32 else 0)
theorem flagAt_bd (a b c : Bool) : 0 ≤ flagAt a b c 4 ∧ flagAt a b c 4 ≤ 255 := by
  cases a <;> cases b <;> cases c <;> decide
theorem memL_made (w : World) (xs : List Int) (hn : xs.length ≤ 1099511627776) : MemL (w.alloc (.cells (xs.map (Value.int .u8)).toArray 5)) (some ⟨w.heap.size, 0, none⟩) xs.length xs := by
  obtain ⟨a, c, h1, h2, _⟩ := (own_made w xs 0 (Nat.zero_le _) hn).mem
  cases h1
  exact h2
theorem memL_sumN {w : World} {a : Option Addr} {c n : Nat} {xs : List Int} (hm : MemL w a c xs) (hx : ∀ u ∈ xs, 0 ≤ u ∧ u ≤ 255) (hl : xs.length ≤ 65536) (hn : n = xs.length) :
    Calls Tryd.prog 13 #[.slice a n c, .int .u32 0] w fun e w' => e = .returned (.int .u32 (sumB xs)) ∧ Below w.heap.size w w' := by
  subst hn
  exact memL_sum hm hx hl
/-- a head's middle -/
def midOf (k : Int) (a b c : Bool) (n : Int) : List Int := [flagAt a b c 4, k * 16] ++ (if b then fourB n ++ [0, 0, 0, 0] else [])
/-- a head -/
def headL (k : Int) (a b c : Bool) (n : Int) : List Int := fourB 407708164 ++ (midOf k a b c n ++ [sumB (midOf k a b c n) / 256 % 256])
theorem head9 {k n : Int} {a b c : Bool} {w : World} (hk : 4 ≤ k ∧ k ≤ 7) (hn : 0 ≤ n ∧ n ≤ 1000000) :
    Calls Tryd.prog 9 #[.agg (FrameV k a b c), .int .i64 n] w fun e w' => ∃ val, e = .returned val ∧ OwnB w' w.heap.size val (headL k a b c n) ∧ Below w.heap.size w w' := by
  unfold FrameV
  go_enter Tryd.func9, Tryd.ntmps9
  have hb := Lib.hid (show BoxF (w.alloc (.cells #[.int .i64 k, .bool true, .bool a, .bool b, .bool c] 26)) w.heap.size k a b c from heap_alloc_new w _)
  have hB := Lib.hid (show Below w.heap.size w (w.alloc (.cells #[.int .i64 k, .bool true, .bool a, .bool b, .bool c] 26)) from (Below.refl _ w).alloc (Nat.le_refl _) _)
  go_wp2
  go_loopw [5, 19] (fun s5 p wr => ∃ i : Nat, i ≤ 4 ∧ p = .int .i64 (i : Int) ∧ s5 = .int .i64 (flagAt a b c i) ∧
      Hid (BoxF wr w.heap.size k a b c ∧ Below w.heap.size w wr ∧ w.heap.size + 1 ≤ wr.heap.size ∧ wr.cell? ⟨w.heap.size + 1, 0, none⟩ = some (.bool c) ∧ wr.cell? ⟨w.heap.size + 1, 1, none⟩ = some (.bool b) ∧ wr.cell? ⟨w.heap.size + 1, 2, none⟩ = some (.bool a) ∧ wr.cell? ⟨w.heap.size + 1, 3, none⟩ = some (.bool true)))
    (fun _ p _ => match p with | .int _ r => 4 - r.toNat | _ => 0)
  case atStart =>
    exact ⟨0, by omega, rfl, by simp [flagAt], hb.out.grown (World.grownBy_alloc _ _ none) (by simp), hB.out.alloc (by simp) _, by simp, by simp [go_sem], by simp [go_sem], by simp [go_sem], by simp [go_sem]⟩
  case round =>
    obtain ⟨i, hi, rfl, rfl, HI⟩ := hrel
    obtain ⟨e0, e1, e2, c0, c1, c2, c3⟩ := HI.out
    clear hb hB
    by_cases hi4 : i = 4
    · subst hi4
      have B0 := Lib.hid e0
      have HB0 := Lib.hid e1
      have hs0 := Lib.hid e2
      have d0 := e0.c0
      have d3 := e0.c3
      have hbd := flagAt_bd a b c
      clear HI e0 e1 e2 c0 c1 c2 c3
      generalize hF : flagAt a b c 4 = F at hbd
      have hbase : Hid (w.heap.size + 1 ≤ (wr.alloc (Obj.cells #[Value.int IntKind.u8 F, Value.int IntKind.u8 (k * 16)] 5)).heap.size) := Lib.hid (by have := hs0.out; simp; omega)
      have HO0 : Hid (OwnB (wr.alloc (Obj.cells #[Value.int IntKind.u8 F, Value.int IntKind.u8 (k * 16)] 5)) (w.heap.size + 1) (.slice (some ⟨wr.heap.size, 0, none⟩) 2 2) [F, k * 16]) := Lib.hid (own_made wr [F, k * 16] _ hs0.out (by simp))
      have HBX0 := Lib.hid (HB0.out.alloc HB0.out.size (Obj.cells #[Value.int IntKind.u8 F, Value.int IntKind.u8 (k * 16)] 5))
      have d3' : (wr.alloc (Obj.cells #[Value.int IntKind.u8 F, Value.int IntKind.u8 (k * 16)] 5)).cell? ⟨w.heap.size, 3, none⟩ = some (Value.bool b) := Lib.cell?_alloc_some _ d3
      cases b
      · have HZ := HO0
        have HZM : Hid (MemL (wr.alloc (Obj.cells #[Value.int IntKind.u8 F, Value.int IntKind.u8 (k * 16)] 5)) (some ⟨wr.heap.size, 0, none⟩) 2 [F, k * 16]) := Lib.hid (memL_made wr [F, k * 16] (by simp))
        have HZR : Hid (∀ u ∈ [F, k * 16], 0 ≤ u ∧ u ≤ 255) := Lib.hid (by intro u hu; simp at hu; omega)
        have HZB := HBX0
        have HZs := hbase
        go_wp2_with (first
        | (go_at_call 13
           refine Calls.mono (memL_sumN HZM.out HZR.out (by simp) (by simp)) ?_
           rintro e w5 ⟨rfl, hB5⟩
           have HO5 := Lib.hid (HZ.out.below hB5)
           have HB5 := Lib.hid (HZB.out.grown (grown_of_below hB5 none) (Nat.le_of_succ_le HZs.out) (by simp))
           have hs5 := Lib.hid (Nat.le_trans HZs.out (grown_of_below hB5 none).size)
           clear hB5)
        | (at_builtin
           refine wpList_append_bytes (base := w.heap.size + 1) (ys := [sumB _ / 256 % 256]) rfl (.tmp 46) (.tmp 51) rfl rfl (HO5.out.alloc _) rfl (MemL.one (by simp [go_sem]; rfl)) (by simp) (by have := hs5.out; simp; omega) ?_
           intro v6 w6 own6 hgr6 hat6
           have HB6 := Lib.hid ((HB5.out.alloc HB5.out.size _).grown hgr6 (by have := hs5.out; simp; omega) (fun k hk => Nat.le_of_succ_le (HO5.out.lt k hk).1))
           have hs6 := Lib.hid (show w.heap.size + 1 ≤ w6.heap.size from Nat.le_trans (by have := hs5.out; simp; omega) hgr6.size)
           have HO6 := Lib.hid own6
           clear own6 hgr6 hat6)
        | (go_at_call_of 6 (Value.int .u32 407708164)
           refine Calls.mono (four6o _ (by decide) (by decide) _) ?_
           rintro e w7 ⟨val7, rfl, ho7, hB7⟩
           have HO6b := Lib.hid (HO6.out.below hB7)
           have HB7 := Lib.hid (HB6.out.grown (grown_of_below hB7 none) (Nat.le_of_succ_le hs6.out) (by simp))
           have hs7 := Lib.hid (Nat.le_trans hs6.out (grown_of_below hB7 none).size)
           have HO7 := Lib.hid (ho7.low (Nat.le_of_succ_le hs6.out))
           obtain ⟨a6, c6, rfl, hm6, _⟩ := HO6b.out.mem
           have HM6 := Lib.hid hm6
           clear ho7 hB7 hm6)
        | (at_builtin
           refine wpList_append_bytes (base := w.heap.size) rfl (.tmp 53) (.tmp 54) rfl rfl HO7.out rfl HM6.out (by simp [fourB]) (Nat.le_of_succ_le hs7.out) ?_
           intro v8 w8 own8 hgr8 hat8
           have HB8 := Lib.hid (HB7.out.grown hgr8 (Nat.le_of_succ_le hs7.out) (fun k hk => (HO7.out.lt k hk).1))
           have HO8 := Lib.hid own8
           clear own8 hgr8 hat8))
        go_ret
        refine ⟨_, rfl, ?_, HB8.out⟩
        have h8 := HO8.out
        simp only [headL, midOf, hF]
        first | exact h8 | simpa using h8
      · go_wp2_with (first
        | (go_at_call_of 6 (Value.int .u32 n)
           refine Calls.mono (four6o _ (by omega) (by omega) _) ?_
           rintro e w1 ⟨val1, rfl, ho1, hB1⟩
           have HO1 := Lib.hid (HO0.out.below hB1)
           have HB1 := Lib.hid (HBX0.out.grown (grown_of_below hB1 none) (Nat.le_of_succ_le hbase.out) (by simp))
           have hs1 := Lib.hid (Nat.le_trans hbase.out (grown_of_below hB1 none).size)
           obtain ⟨a1, c1, rfl, hm1, _⟩ := ho1.mem
           have HM1 := Lib.hid hm1
           clear ho1 hB1 hm1)
        | (at_builtin
           refine wpList_append_bytes (base := w.heap.size + 1) rfl (.tmp 39) (.tmp 42) rfl rfl HO1.out rfl HM1.out (by simp [fourB]) hs1.out ?_
           intro v2 w2 own2 hgr2 hat2
           have HB2 := Lib.hid (HB1.out.grown hgr2 (Nat.le_of_succ_le hs1.out) (fun k hk => Nat.le_of_succ_le (HO1.out.lt k hk).1))
           have hs2 := Lib.hid (show w.heap.size + 1 ≤ w2.heap.size from Nat.le_trans hs1.out hgr2.size)
           have HO2 := Lib.hid own2
           clear own2 hgr2 hat2)
        | (at_builtin
           refine wpList_append_bytes (base := w.heap.size + 1) (ys := [0, 0, 0, 0]) rfl (.tmp 43) (.tmp 44) rfl rfl (HO2.out.alloc _) rfl (memL_made _ [0, 0, 0, 0] (by simp)) (by simp [fourB]) (by have := hs2.out; simp; omega) ?_
           intro v3 w3 own3 hgr3 hat3
           have HZB := Lib.hid ((HB2.out.alloc HB2.out.size _).grown hgr3 (by have := hs2.out; simp; omega) (fun k hk => Nat.le_of_succ_le (HO2.out.lt k hk).1))
           have HZs := Lib.hid (show w.heap.size + 1 ≤ w3.heap.size from Nat.le_trans (by have := hs2.out; simp; omega) hgr3.size)
           have HZ := Lib.hid own3
           have HZR := Lib.hid (range_app (range_app (show ∀ u ∈ [F, k * 16], 0 ≤ u ∧ u ≤ 255 by intro u hu; simp at hu; omega) (fourB_range n)) (show ∀ u ∈ ([0, 0, 0, 0] : List Int), 0 ≤ u ∧ u ≤ 255 by intro u hu; simp at hu; omega))
           obtain ⟨a3, c3, rfl, hm3, _⟩ := own3.mem
           have HZM := Lib.hid hm3
           clear own3 hgr3 hat3 hm3)
        | (go_at_call 13
           refine Calls.mono (memL_sumN HZM.out HZR.out (by simp [fourB]) (by simp [fourB])) ?_
           rintro e w5 ⟨rfl, hB5⟩
           have HO5 := Lib.hid (HZ.out.below hB5)
           have HB5 := Lib.hid (HZB.out.grown (grown_of_below hB5 none) (Nat.le_of_succ_le HZs.out) (by simp))
           have hs5 := Lib.hid (Nat.le_trans HZs.out (grown_of_below hB5 none).size)
           clear hB5)
        | (at_builtin
           refine wpList_append_bytes (base := w.heap.size + 1) (ys := [sumB _ / 256 % 256]) rfl (.tmp 46) (.tmp 51) rfl rfl (HO5.out.alloc _) rfl (MemL.one (by simp [go_sem]; rfl)) (by simp [fourB]) (by have := hs5.out; simp; omega) ?_
           intro v6 w6 own6 hgr6 hat6
           have HB6 := Lib.hid ((HB5.out.alloc HB5.out.size _).grown hgr6 (by have := hs5.out; simp; omega) (fun k hk => Nat.le_of_succ_le (HO5.out.lt k hk).1))
           have hs6 := Lib.hid (show w.heap.size + 1 ≤ w6.heap.size from Nat.le_trans (by have := hs5.out; simp; omega) hgr6.size)
           have HO6 := Lib.hid own6
           clear own6 hgr6 hat6)
        | (go_at_call_of 6 (Value.int .u32 407708164)
           refine Calls.mono (four6o _ (by decide) (by decide) _) ?_
           rintro e w7 ⟨val7, rfl, ho7, hB7⟩
           have HO6b := Lib.hid (HO6.out.below hB7)
           have HB7 := Lib.hid (HB6.out.grown (grown_of_below hB7 none) (Nat.le_of_succ_le hs6.out) (by simp))
           have hs7 := Lib.hid (Nat.le_trans hs6.out (grown_of_below hB7 none).size)
           have HO7 := Lib.hid (ho7.low (Nat.le_of_succ_le hs6.out))
           obtain ⟨a6, c6, rfl, hm6, _⟩ := HO6b.out.mem
           have HM6 := Lib.hid hm6
           clear ho7 hB7 hm6)
        | (at_builtin
           refine wpList_append_bytes (base := w.heap.size) rfl (.tmp 53) (.tmp 54) rfl rfl HO7.out rfl HM6.out (by simp [fourB]) (Nat.le_of_succ_le hs7.out) ?_
           intro v8 w8 own8 hgr8 hat8
           have HB8 := Lib.hid (HB7.out.grown hgr8 (Nat.le_of_succ_le hs7.out) (fun k hk => (HO7.out.lt k hk).1))
           have HO8 := Lib.hid own8
           clear own8 hgr8 hat8))
        go_ret
        refine ⟨_, rfl, ?_, HB8.out⟩
        have h8 := HO8.out
        simp only [headL, midOf, hF]
        first | exact h8 | simpa using h8
    · have h4 : i = 0 ∨ i = 1 ∨ i = 2 ∨ i = 3 := by omega
      clear e0 e1 e2
      rcases h4 with rfl | rfl | rfl | rfl
      all_goals
        cases a <;> cases b <;> cases c
      all_goals
        simp only [flagAt] at *
        go_wp2
        refine ⟨⟨_, ?_, rfl, rfl, HI⟩, ?_⟩
        · decide
        · decide
end Go.Proofs.YtbadknelbdkpmaaDoor
