/-
  impl.UncompressDict: a block unpacked behind a dictionary.
-/
import Derived.Test.YtkfkbbablgbfoaaCalls2
namespace Go.Proofs.Ytkfkbbablgbfoaa
open Go.RowKit
set_option linter.unusedVariables false
set_option maxHeartbeats 1000000
theorem call20 {a' a6 : Option Addr} {n c' N k c6 : Nat} {S D : Nat → Int} {w w1 w2 w3 : World} {r : Option (List Int)} (hR : Rowf w1 w.heap.size 5 N (fun _ => .int .u8 0)) (hm : Mem w2 .u8 a' n c' S)
    (ho : ∀ x, a' = some x → w1.heap.size ≤ x.block) (hB : Below w1.heap.size w1 w2) (hm6 : Mem w3 .u8 a6 k c6 D) (ho6 : ∀ x, a6 = some x → w2.heap.size ≤ x.block) (hB6 : Below w2.heap.size w2 w3) (hk : k ≤ 1099511627776)
    (hS : ∀ i, 0 ≤ S i ∧ S i ≤ 255) (hn0 : 0 < n) (hn : n ≤ 1099511627776) (hN : N ≤ 1099511627776)
    (hd : Dec S D n k N 0 [] r) : Calls Try.prog 20 #[.slice a' n c', .slice (some ⟨w.heap.size, 0, none⟩) N N, .slice a6 k c6] w3 (Told2 (fun _ => 0) w.heap.size N w3 r) := by
  have hm3 := hm.below hB6
  obtain ⟨h1, h2, h3 | ⟨b, off, rfl, h4⟩⟩ := hm3
  · omega
  · have h5 := ho _ rfl
    have h6 := Rowf.lt hR
    refine c20 _ _ _ (c22 hn0 hn hN _ _ ?_)
    have hR2 := Rowf.grown hR (grown_of_below hB none) (by simp)
    have h7 := Rowf.lt hR2
    refine dec24 hd hn0 hn hN (Nat.le_refl _) h1 hk hm6.1 (Rowf.grown hR2 (grown_of_below hB6 none) (by simp)) ⟨h4, hS⟩ (by simp only at h5; omega) (fun hp => ?_)
    obtain ⟨_, _, hx | ⟨b6, o6, rfl, h8⟩⟩ := hm6
    · omega
    · have h9 := ho6 _ rfl
      exact ⟨b6, o6, rfl, by simp only at h9; omega, h8⟩
set_option maxHeartbeats 4000000 in
theorem c13 {a ad : Option Addr} {n c N k cd : Nat} {S D : Nat → Int} {w : World} {r : Option (List Int)} (hM : Mem w .u8 a n c S) (hMd : Mem w .u8 ad k cd D) (hk : k ≤ 1099511627776) (hS : ∀ i, 0 ≤ S i ∧ S i ≤ 255) (hn0 : 0 < n) (hn : n ≤ 1099511627776) (hN : N ≤ 1099511627776)
    (hd : Dec S D n k N 0 [] r) : Calls Try.prog 13 #[.slice a n c, .int .i64 (N : Int), .slice ad k cd] w (Told3 w r) := by
  obtain ⟨i0, hi, hz0, hz1, hz2⟩ := info_parts info5
  have HM := Lib.hid hM
  have HD := Lib.hid hMd
  clear hM hMd
  go_enter Try.func13, Try.ntmps13
  have q := short_nil
  have q0 := nil_nil
  have q18 := c18
  have qg := short_guard
  generalize hE : shortErr = E at q q18 qg
  cases r with
  | none =>
    go_wp2_with (first
      | (at_make; refine wpList_make_full _ rfl _ _ 22 rfl w.heap.size 5 i0 (.int .u8 0) 1 Try.underlying22 hi hz0 hz1 .i64 .i64 _ _ N rfl rfl rfl rfl (by rw [hz2]; omega) (by unfold maxLen; omega) (Nat.le_refl _) ?_; intro w1 hown hg1; have hR := Lib.hid (row_of_made hown); clear hown; have B1 := (Below.refl _ w).grown hg1 (Nat.le_refl _) (by simp); have hM1 := Lib.hid (HM.out.below B1); have hP := Lib.hid (HD.out.below B1))
      | (go_at_call 17; refine Calls.mono (clone_any _ _ _ S _ (by omega) hM1.out) ?_; rintro e w2 ⟨a', c', rfl, hm, ho, hB⟩; have B2 := B1.grown (grown_of_below hB none) hg1.size (by simp); have hP2 := Lib.hid (hP.out.below hB); have hm' := Lib.hid hm; have ho' := Lib.hid ho; clear hm ho hM1 hP)
      | (go_at_call 17; refine Calls.mono (clone_any _ _ _ D _ (by omega) hP2.out) ?_; rintro e w6 ⟨a6, c6, rfl, hm6, ho6, hB6⟩; have B6 := B2.grown (grown_of_below hB6 none) (Nat.le_trans hg1.size (grown_of_below hB none).size) (by simp); have hcall := Lib.hid (call20 hR.out hm'.out ho'.out hB hm6 ho6 hB6 hk hS hn0 hn hN hd); have s6 := (grown_of_below hB6 none).size; clear hm6 ho6 hP2)
      | (go_at_call 20; refine Calls.mono hcall.out ?_; rintro e w3 ⟨he, hg3⟩; rw [hE] at he; subst he)
      | (go_at_call 18; refine Calls.mono (q18 _) ?_; rintro e w4 ⟨rfl, rfl⟩))
    go_ret2
    exact ⟨rfl, B6.grown hg3 (Nat.le_trans (Nat.le_trans hg1.size (grown_of_below hB none).size) s6) (by intro k hk; cases hk; exact Nat.le_refl _)⟩
  | some out =>
    go_wp2_with (first
      | (at_make; refine wpList_make_full _ rfl _ _ 22 rfl w.heap.size 5 i0 (.int .u8 0) 1 Try.underlying22 hi hz0 hz1 .i64 .i64 _ _ N rfl rfl rfl rfl (by rw [hz2]; omega) (by unfold maxLen; omega) (Nat.le_refl _) ?_; intro w1 hown hg1; have hR := Lib.hid (row_of_made hown); clear hown; have B1 := (Below.refl _ w).grown hg1 (Nat.le_refl _) (by simp); have hM1 := Lib.hid (HM.out.below B1); have hP := Lib.hid (HD.out.below B1))
      | (go_at_call 17; refine Calls.mono (clone_any _ _ _ S _ (by omega) hM1.out) ?_; rintro e w2 ⟨a', c', rfl, hm, ho, hB⟩; have B2 := B1.grown (grown_of_below hB none) hg1.size (by simp); have hP2 := Lib.hid (hP.out.below hB); have hm' := Lib.hid hm; have ho' := Lib.hid ho; clear hm ho hM1 hP)
      | (go_at_call 17; refine Calls.mono (clone_any _ _ _ D _ (by omega) hP2.out) ?_; rintro e w6 ⟨a6, c6, rfl, hm6, ho6, hB6⟩; have B6 := B2.grown (grown_of_below hB6 none) (Nat.le_trans hg1.size (grown_of_below hB none).size) (by simp); have hcall := Lib.hid (call20 hR.out hm'.out ho'.out hB hm6 ho6 hB6 hk hS hn0 hn hN hd); have s6 := (grown_of_below hB6 none).size; clear hm6 ho6 hP2)
      | (go_at_call 20; refine Calls.mono hcall.out ?_; rintro e w3 ⟨rfl, hg3, hl, V', hD', hv'⟩; have hm3 := Lib.hid (mem_of_holds hD' hv' hl hN); clear hD' hv')
      | (go_at_call 17; refine Calls.mono (clone_any _ _ _ _ _ (by omega) hm3.out) ?_; rintro e w4 ⟨a5, c5, rfl, hm5, ho5, hB5⟩))
    go_ret2
    have B3 := B6.grown hg3 (Nat.le_trans (Nat.le_trans hg1.size (grown_of_below hB none).size) s6) (by intro k hk; cases hk; exact Nat.le_refl _)
    exact ⟨a5, c5, rfl, hm5, B3.grown (grown_of_below hB5 none) (Nat.le_trans (Nat.le_trans (Nat.le_trans hg1.size (grown_of_below hB none).size) s6) hg3.size) (by simp)⟩
end Go.Proofs.Ytkfkbbablgbfoaa
