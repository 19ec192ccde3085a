/-
  impl.Uncompress: a block unpacked into so much room.
-/
import Derived.Test.YtkfkbbablgbfoaaCalls1
namespace Go.Proofs.Ytkfkbbablgbfoaa
open Go.RowKit
set_option linter.unusedVariables false
set_option maxHeartbeats 1000000
theorem row_of_made {w : World} {base g N : Nat} (h : w.ownsRow base 5 1 (.slice (some ⟨g, 0, none⟩) N N) N (madeCells (Value.int .u8 0).cells (N * 1)).toList) : Rowf w g 5 N (fun _ => .int .u8 0) := by
  rcases h.2 with ⟨h1, _⟩ | ⟨g', cap, cur, h1, h2, h3, h4, h5, h6, h7⟩
  · simp at h1
  · simp only [Value.slice.injEq, Option.some.injEq, Addr.mk.injEq] at h1
    obtain ⟨⟨rfl, _, _⟩, _, rfl⟩ := h1
    unfold Rowf
    rw [h3]
    congr 2
    rw [List.take_of_length_le (by simp [h6])] at h7
    apply Array.ext
    · simp [h6]
    · intro i h8 h9
      have h10 : cur[i]? = (madeCells (Value.int .u8 0).cells (N * 1))[i]? := by rw [← Array.getElem?_toList, h7, Array.getElem?_toList]
      rw [Array.getElem?_eq_getElem h8] at h10
      have h11 : i < N := by simpa using h9
      simp [madeCells, Value.cells, h11, Nat.mod_one] at h10
      simpa using h10
/-- what impl.Uncompress answers -/
def Told3 (w : World) : Option (List Int) → Ending → World → Prop
  | none, e, w' => e = .returned (.tuple #[.slice none 0 0, .int .i64 2]) ∧ Below w.heap.size w w'
  | some out, e, w' => ∃ a' c', e = .returned (.tuple #[.slice a' out.length c', .int .i64 0]) ∧ Mem w' .u8 a' out.length c' (fun i => out.getD i 0) ∧ Below w.heap.size w w'
theorem call16 {a' : Option Addr} {n c' N : Nat} {S : Nat → Int} {w w1 w2 : World} {r : Option (List Int)} (hR : Rowf w1 w.heap.size 5 N (fun _ => .int .u8 0)) (hm : Mem w2 .u8 a' n c' S)
    (ho : ∀ x, a' = some x → w1.heap.size ≤ x.block) (hB : Below w1.heap.size w1 w2) (hS : ∀ i, 0 ≤ S i ∧ S i ≤ 255) (hn0 : 0 < n) (hn : n ≤ 1099511627776) (hN : N ≤ 1099511627776)
    (hd : Dec S (fun _ => 0) n 0 N 0 [] r) : Calls Try.prog 16 #[.slice a' n c', .slice (some ⟨w.heap.size, 0, none⟩) N N] w2 (Told2 (fun _ => 0) w.heap.size N w2 r) := by
  obtain ⟨h1, h2, h3 | ⟨b, off, rfl, h4⟩⟩ := hm
  · omega
  · have h5 := ho _ rfl
    have h6 := Rowf.lt hR
    refine c16 _ _ (c22 hn0 hn hN _ _ ?_)
    exact dec24 hd hn0 hn hN (Nat.le_refl _) h1 (Nat.zero_le _) (Nat.le_refl _) (Rowf.grown hR (grown_of_below hB none) (by simp)) ⟨h4, hS⟩ (by simp only at h5; omega) (fun h => by omega)
theorem mem_of_holds {w : World} {g N : Nat} {V : Nat → Int} {out : List Int} (hD : Dst w g N V) (hV : Holds V out) (hl : out.length ≤ N) (hN : N ≤ 1099511627776) : Mem w .u8 (some ⟨g, 0, none⟩) out.length N (fun i => out.getD i 0) :=
  ⟨hl, by omega, .inr ⟨g, 0, rfl, fun i hi => by rw [Nat.zero_add]; show _ = some (Value.int .u8 (out.getD i 0)); rw [← hV i hi]; exact hD.cell (by omega)⟩⟩
theorem short_nil (w : World) : (binOp BinOp.neq 45 shortErr .nilIface).run Try.prog w = .ok (.bool true) w := by kernel_rfl
theorem short_guard (x y : Operand) (w : World) : (eqGuard BinOp.neq 45 x y shortErr .nilIface).run Try.prog w = .ok () w := rfl
theorem nil_nil (w : World) : (binOp BinOp.neq 45 .nilIface .nilIface).run Try.prog w = .ok (.bool false) w := by kernel_rfl
set_option maxHeartbeats 4000000 in
theorem c10 {a : Option Addr} {n c N : Nat} {S : Nat → Int} {w : World} {r : Option (List Int)} (hM : Mem w .u8 a n c S) (hS : ∀ i, 0 ≤ S i ∧ S i ≤ 255) (hn0 : 0 < n) (hn : n ≤ 1099511627776) (hN : N ≤ 1099511627776)
    (hd : Dec S (fun _ => 0) n 0 N 0 [] r) : Calls Try.prog 10 #[.slice a n c, .int .i64 (N : Int)] w (Told3 w r) := by
  obtain ⟨i0, hi, hz0, hz1, hz2⟩ := info_parts info5
  have HM := Lib.hid hM
  clear hM
  go_enter Try.func10, Try.ntmps10
  have q := short_nil
  have q0 := nil_nil
  have q18 := c18
  have qg := short_guard
  generalize hE : shortErr = E at q q18 qg
  cases r with
  | none =>
    go_wp2_with (first
      | (at_make; refine wpList_make_full _ rfl _ _ 22 rfl w.heap.size 5 i0 (.int .u8 0) 1 Try.underlying22 hi hz0 hz1 .i64 .i64 _ _ N rfl rfl rfl rfl (by rw [hz2]; omega) (by unfold maxLen; omega) (Nat.le_refl _) ?_; intro w1 hown hg1; have hR := Lib.hid (row_of_made hown); clear hown; have B1 := (Below.refl _ w).grown hg1 (Nat.le_refl _) (by simp); have hM1 := Lib.hid (HM.out.below B1))
      | (go_at_call 17; refine Calls.mono (clone_any _ _ _ S _ (by omega) hM1.out) ?_; rintro e w2 ⟨a', c', rfl, hm, ho, hB⟩; have B2 := B1.grown (grown_of_below hB none) hg1.size (by simp); have hcall := Lib.hid (call16 hR.out hm ho hB hS hn0 hn hN hd); clear hm ho)
      | (go_at_call 16; refine Calls.mono hcall.out ?_; rintro e w3 ⟨he, hg3⟩; rw [hE] at he; subst he)
      | (go_at_call 18; refine Calls.mono (q18 _) ?_; rintro e w4 ⟨rfl, rfl⟩))
    go_ret2
    exact ⟨rfl, B2.grown hg3 (Nat.le_trans hg1.size (grown_of_below hB none).size) (by intro k hk; cases hk; exact Nat.le_refl _)⟩
  | some out =>
    go_wp2_with (first
      | (at_make; refine wpList_make_full _ rfl _ _ 22 rfl w.heap.size 5 i0 (.int .u8 0) 1 Try.underlying22 hi hz0 hz1 .i64 .i64 _ _ N rfl rfl rfl rfl (by rw [hz2]; omega) (by unfold maxLen; omega) (Nat.le_refl _) ?_; intro w1 hown hg1; have hR := Lib.hid (row_of_made hown); clear hown; have B1 := (Below.refl _ w).grown hg1 (Nat.le_refl _) (by simp); have hM1 := Lib.hid (HM.out.below B1))
      | (go_at_call 17; refine Calls.mono (clone_any _ _ _ S _ (by omega) hM1.out) ?_; rintro e w2 ⟨a', c', rfl, hm, ho, hB⟩; have B2 := B1.grown (grown_of_below hB none) hg1.size (by simp); have hcall := Lib.hid (call16 hR.out hm ho hB hS hn0 hn hN hd); clear hm ho hM1)
      | (go_at_call 16; refine Calls.mono hcall.out ?_; rintro e w3 ⟨rfl, hg3, hl, V', hD', hv'⟩; have hm3 := Lib.hid (mem_of_holds hD' hv' hl hN); clear hD' hv')
      | (go_at_call 17; refine Calls.mono (clone_any _ _ _ _ _ (by omega) hm3.out) ?_; rintro e w4 ⟨a5, c5, rfl, hm5, ho5, hB5⟩))
    go_ret2
    have B3 := B2.grown hg3 (Nat.le_trans hg1.size (grown_of_below hB none).size) (by intro k hk; cases hk; exact Nat.le_refl _)
    exact ⟨a5, c5, rfl, hm5, B3.grown (grown_of_below hB5 none) (Nat.le_trans (Nat.le_trans hg1.size (grown_of_below hB none).size) hg3.size) (by simp)⟩
end Go.Proofs.Ytkfkbbablgbfoaa
