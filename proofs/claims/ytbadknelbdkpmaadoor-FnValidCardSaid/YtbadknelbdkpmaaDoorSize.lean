/-
  spec.size: the bytes behind 15 of a number.
-/
import Derived.Test.YtbadknelbdkpmaaDoorClone
import Derived.Test.YtbadknelbdkpmaaDoorView
namespace Go.Proofs.YtbadknelbdkpmaaDoor
open Go.RowKit
set_option linter.unusedVariables false
set_option maxHeartbeats 1000000
set_option maxRecDepth 20000
/-- the bytes behind 15 of a number -/
def extra (m : Nat) : List Int := if m < 15 then [] else List.replicate ((m - 15) / 255) 255 ++ [(((m - 15) % 255 : Nat) : Int)]
/-- bytes of the call's own -/
def Owned (w : World) (xs : List Int) (e : Ending) (w' : World) : Prop :=
  ∃ a c, e = .returned (.slice a xs.length c) ∧ Mem w' .u8 a xs.length c (fun i => xs.getD i 0) ∧ (∀ x, a = some x → w.heap.size ≤ x.block) ∧ Below w.heap.size w w'
theorem owned_of {w w' : World} {v : Value} {xs : List Int} (h : w'.ownsRow w.heap.size 5 1 v xs.length (xs.map (Value.int .u8))) (hB : Below w.heap.size w w') : Owned w xs (.returned v) w' := by
  have e : xs.map (Value.int .u8) = (List.range xs.length).map fun i => Value.int .u8 (xs.getD i 0) := by
    refine List.ext_getElem (by simp) fun i h1 h2 => ?_
    simp only [List.length_map] at h1
    simp [List.getD_eq_getElem?_getD, List.getElem?_eq_getElem h1]
  rw [e] at h
  obtain ⟨a, c, rfl, hm, ho⟩ := mem_of_owns h
  exact ⟨a, c, rfl, hm, ho, hB⟩
theorem size21 (m : Nat) (hm : m ≤ 1000000) (w : World) : Calls Tryd.prog 14 #[.int .i64 (m : Int)] w (Owned w (extra m)) := by
  obtain ⟨i0, hi, hz0, hz1, hz2⟩ := info_parts info5
  go_enter Tryd.func14, Tryd.ntmps14
  by_cases h15 : m < 15
  · have d1 : decide ((m : Int) < 15) = true := by simp; omega
    have hE : extra m = [] := by simp [extra, h15]
    go_wp2
    go_ret
    rw [hE]
    exact owned_of (xs := []) (World.ownsRow_made w #[] 0 (Nat.le_refl _) (Nat.zero_le _) rfl) ((Below.refl _ _).alloc (Nat.le_refl _) _)
  · have d1 : decide ((m : Int) < 15) = false := by simp; omega
    go_wp2
    go_loopw [0, 3] (fun x o wr => ∃ (j r : Nat), m - 15 = 255 * j + r ∧ x = .int .i64 (r : Int) ∧
        Hid (wr.ownsRow w.heap.size 5 1 o j (List.replicate j (Value.int .u8 255)) ∧ Below w.heap.size w wr))
      (fun x _ _ => match x with | .int _ r => r.toNat | _ => 0)
    case atStart => exact ⟨0, m - 15, by omega, by congr 1; omega, World.ownsRow_made w #[] 0 (Nat.le_refl _) (Nat.zero_le _) rfl, (Below.refl _ _).alloc (Nat.le_refl _) _⟩
    case round =>
      obtain ⟨j, r, hjr, rfl, HI⟩ := hrel
      by_cases hr : 255 ≤ r
      · have d2 : decide ((r : Int) ≥ 255) = true := by simp; omega
        go_wp2_with (at_builtin; refine wpList_append_own _ rfl _ _ 23 rfl w.heap.size 5 i0 (.int .u8 0) 1 1 Tryd.underlying23 hi hz0 hz1 hz2 rfl (by decide) _ _ _ rfl (HI.out.1.alloc _) ⟨wr.heap.size, 0, none⟩ 1 1 [.int .u8 255] rfl rfl (cell_one_new _ _ _) (by intro u hu; simp at hu; subst hu; rfl) (by unfold maxLen; omega) (by omega) (by have := HI.out.2.size; simp; omega) ?_; intro v' w3 hown' hgrow _; (have HOWN := Lib.hid hown'); (have HGR := Lib.hid hgrow); clear hown' hgrow)
        go_roundw
        case rel =>
          refine ⟨j + 1, r - 255, by omega, by congr 1; omega, ?_, ?_⟩
          · rw [List.replicate_succ']
            simpa using HOWN.out
          · exact (HI.out.2.alloc HI.out.2.size _).grown HGR.out (by have := HI.out.2.size; simp; omega) (fun k hk => (HI.out.1.lt k hk).1)
        case measure => simp; omega
      · have d2 : decide ((r : Int) ≥ 255) = false := by simp; omega
        go_wp2_with (at_builtin; refine wpList_append_own _ rfl _ _ 23 rfl w.heap.size 5 i0 (.int .u8 0) 1 1 Tryd.underlying23 hi hz0 hz1 hz2 rfl (by decide) _ _ _ rfl (HI.out.1.alloc _) ⟨wr.heap.size, 0, none⟩ 1 1 [.int .u8 (r : Int)] rfl rfl (cell_one_new _ _ _) (by intro u hu; simp at hu; subst hu; rfl) (by unfold maxLen; omega) (by omega) (by have := HI.out.2.size; simp; omega) ?_; intro v' w3 hown' hgrow _; (have HOWN := Lib.hid hown'); (have HGR := Lib.hid hgrow); clear hown' hgrow)
        go_ret
        have hE : extra m = List.replicate j 255 ++ [(r : Int)] := by
          unfold extra
          rw [if_neg h15, hjr, show (255 * j + r) / 255 = j by omega, show (255 * j + r) % 255 = r by omega]
        rw [hE]
        refine owned_of (xs := List.replicate j 255 ++ [(r : Int)]) (by simpa using HOWN.out) ?_
        exact (HI.out.2.alloc HI.out.2.size _).grown HGR.out (by have := HI.out.2.size; simp; omega) (fun k hk => (HI.out.1.lt k hk).1)
end Go.Proofs.YtbadknelbdkpmaaDoor
