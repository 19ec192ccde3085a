/-
  The walk of laws.FnUncompress: for every input it returns true and writes nothing that was there.
-/
import Derived.Test.YtkfkbbablgbfoaaLaw4
namespace Go.Proofs.Ytkfkbbablgbfoaa
open Go.RowKit
set_option linter.unusedVariables false
set_option maxHeartbeats 1000000
set_option maxRecDepth 20000
theorem nil_getD : (fun i => ([] : List Int).getD i 0) = fun _ => 0 := by funext i; simp
theorem memL_nil (w : World) : MemL w none 0 [] := ⟨Nat.le_refl _, by decide, .inl rfl⟩
theorem walk6 (a0 a1 : Option Addr) (len0 cap0 len1 cap1 : Nat) (N Z : Nat → Int) (a2 : Int) (w : World) (h0 : Mem w .u32 a0 len0 cap0 N) (h0r : ∀ i, 0 ≤ N i ∧ N i ≤ 4294967295) (h1 : Mem w .u8 a1 len1 cap1 Z) (h1r : ∀ i, 0 ≤ Z i ∧ Z i ≤ 255) (h2 : 0 ≤ a2 ∧ a2 ≤ 255) :
    Calls Try.prog 6 #[.slice a0 len0 cap0, .slice a1 len1 cap1, .int .u8 a2] w fun e w' => e = .returned (.bool true) ∧ Below w.heap.size w w' := by
  have HN := Lib.hid h0
  have HZ := Lib.hid h1
  have hl0 : len0 ≤ 9223372036854775807 := Nat.le_trans h0.1 h0.2.1
  have hl1 : len1 ≤ 9223372036854775807 := Nat.le_trans h1.1 h1.2.1
  clear h0 h1
  obtain ⟨m2, hm2⟩ : ∃ m2 : Nat, a2 = (m2 : Int) := ⟨a2.toNat, by omega⟩
  subst hm2
  by_cases c1 : 2147483647 < len0
  · have d1 : (2147483647 : Int) < (len0 : Int) := by omega
    go_enter Try.func6, Try.ntmps6
    go_wp2
    go_ret
    exact ⟨rfl, Below.refl _ _⟩
  have d1 : ¬ (2147483647 : Int) < (len0 : Int) := by omega
  by_cases c2 : 2147483647 < len1
  · have d2 : (2147483647 : Int) < (len1 : Int) := by omega
    go_enter Try.func6, Try.ntmps6
    go_wp2
    go_ret
    exact ⟨rfl, Below.refl _ _⟩
  have d2 : ¬ (2147483647 : Int) < (len1 : Int) := by omega
  by_cases c3 : 100 < len0
  · have d3 : (100 : Int) < (len0 : Int) := by omega
    go_enter Try.func6, Try.ntmps6
    go_wp2
    go_ret
    exact ⟨rfl, Below.refl _ _⟩
  have d3 : ¬ (100 : Int) < (len0 : Int) := by omega
  by_cases c4 : 1000 < len1
  · have d4 : (1000 : Int) < (len1 : Int) := by omega
    go_enter Try.func6, Try.ntmps6
    go_wp2
    go_ret
    exact ⟨rfl, Below.refl _ _⟩
  have d4 : ¬ (1000 : Int) < (len1 : Int) := by omega
  obtain ⟨y, hy⟩ := lawful (m := len1) h1r N len0 (fun _ => 0) 0
  have HY := Lib.hid hy
  have hyl := hy.ylen
  have HMK := Lib.hid (fun (u : World) (hb : Below w.heap.size w u) => make12 a0 a1 len0 cap0 len1 cap1 0 N Z u (HN.out.below hb) h0r (HZ.out.below hb) h1r (by omega) (by omega) (by omega))
  generalize made Z len1 N len0 0 = l at HY HMK
  clear hy
  go_enter Try.func6, Try.ntmps6
  go_wp2_with (first
    | (go_at_call 12
       refine Calls.mono (HMK.out _ (Below.refl _ _)) ?_
       rintro e w1 ⟨g, cap, rfl, hc1, hs1, hb1⟩
       have HS1 := Lib.hid hs1
       have HB1 := Lib.hid hb1
       clear hs1 hb1)
    | (go_at_call 9
       refine Calls.mono (plain9 g cap l [] none 0 16777216 w1 HS1.out (memL_nil _) hc1 (by have := HY.out.len; omega) (by simp) (by omega) HY.out.step) ?_
       rintro e w2 ⟨hb2, hr2⟩
       rw [nil_getD, List.length_nil, HY.out.plain] at hr2
       obtain ⟨ya, yc, rfl, hym⟩ := hr2
       have HB2 := Lib.hid (HB1.out.trans (hb2.mono HB1.out.size))
       have HS2 := Lib.hid (fun i s hs => (HS1.out i s hs).below hb2)
       have HYM := Lib.hid hym
       clear hb2 hym)
    | (go_at_call 14
       refine Calls.mono (block14 g cap l w2 HS2.out hc1 (by have := HY.out.len; omega) (fun i s hs => ⟨(HY.out.step i s hs).1, (HY.out.step i s hs).2.1, (HY.out.step i s hs).2.2.1⟩)) ?_
       rintro e w3 ⟨ba, bc, rfl, hbm, _, hb3⟩
       have HB3 := Lib.hid (HB2.out.trans (hb3.mono HB2.out.size))
       have HYM3 := Lib.hid (HYM.out.below hb3)
       have HBM := Lib.hid hbm
       clear hb3 hbm)
    | (go_at_call 10
       rw [show (y.length : Int) + (m2 : Int) = ((y.length + m2 : Nat) : Int) by omega]
       refine Calls.mono (c10 HBM.out HY.out.range HY.out.wlen.1 (by have := HY.out.wlen.2; omega) (by omega) (HY.out.good _ (by omega))) ?_
       rintro e w4 ⟨oa, oc, rfl, hom, hb4⟩
       have HB4 := Lib.hid (HB3.out.trans (hb4.mono HB3.out.size))
       have HYM4 := Lib.hid (HYM3.out.below hb4)
       have HOM := Lib.hid hom
       clear hb4 hom)
    | (go_at_call 11
       refine Calls.mono (is_same y rfl HOM.out HYM4.out) ?_
       rintro e w5 ⟨rfl, rfl⟩))
  go_ret
  exact ⟨rfl, HB4.out⟩
end Go.Proofs.Ytkfkbbablgbfoaa
