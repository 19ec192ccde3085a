/-
  The small functions of a frame's descriptor; its sum.
-/
import Derived.Test.YtbadknelbdkpmaaDoorReader
import Derived.Test.YtbadknelbdkpmaaDoorCsum
namespace Go.Proofs.YtbadknelbdkpmaaDoor
open Go.RowKit
set_option linter.unusedVariables false
set_option maxHeartbeats 1000000
set_option maxRecDepth 20000
theorem and16 (x n : Nat) (h : x < 65536) (hn : n ≤ 16) : bits .and .u16 (x : Int) ((2 ^ n - 1 : Nat) : Int) = ((x % 2 ^ n : Nat) : Int) := by
  have hk : ∀ n : Int, 0 ≤ n → n < 2 ^ 16 → IntKind.u16.wrap n = n := by
    intro n h1 h2
    simp [IntKind.wrap, IntKind.bits, IntKind.signed]
    omega
  have hp : 2 ^ n ≤ 2 ^ 16 := Nat.pow_le_pow_right (by omega) hn
  have hp1 : 0 < 2 ^ n := Nat.pow_pos (by omega)
  rw [(bits_nat .u16 16 (by decide) hk x (2 ^ n - 1) (by omega) (by omega)).1, Nat.and_two_pow_sub_one_eq_mod]
theorem size31 (D : Nat) (hD : D < 65536) (w : World) : Calls Tryd.prog 31 #[.int .u16 (D : Int)] w fun e w' => e = .returned (.bool (decide (D / 8 % 2 = 1))) ∧ w' = w := by
  have h := and16 (D / 8) 1 (by omega) (by omega)
  have h : bits .and .u16 ((D : Int) / 8) 1 = ((D / 8 % 2 : Nat) : Int) := h
  have h2 : D / 8 % 2 = 0 ∨ D / 8 % 2 = 1 := by omega
  go_enter Tryd.func31, Tryd.ntmps31
  rcases h2 with h2 | h2
  · rw [h2] at h ⊢
    go_wp2
    go_ret
    exact ⟨rfl, rfl⟩
  · rw [h2] at h ⊢
    go_wp2
    go_ret
    exact ⟨rfl, rfl⟩
theorem dict32 (D : Nat) (hD : D < 65536) (h0 : D % 2 = 0) (w : World) : Calls Tryd.prog 32 #[.int .u16 (D : Int)] w fun e w' => e = .returned (.bool false) ∧ w' = w := by
  have h := and16 D 1 hD (by omega)
  have h : bits .and .u16 (D : Int) 1 = 0 := by rw [show (0 : Int) = ((D % 2 ^ 1 : Nat) : Int) by omega]; exact h
  go_enter Tryd.func32, Tryd.ntmps32
  go_wp2
  go_ret
  exact ⟨rfl, rfl⟩
theorem ver35 (D : Nat) (hD : D < 65536) (w : World) : Calls Tryd.prog 35 #[.int .u16 (D : Int)] w fun e w' => e = .returned (.int .u16 ((D / 64 % 4 : Nat) : Int)) ∧ w' = w := by
  have h : bits .and .u16 ((D : Int) / 64) 3 = ((D / 64 % 4 : Nat) : Int) := and16 (D / 64) 2 (by omega) (by omega)
  go_enter Tryd.func35, Tryd.ntmps35
  go_wp2
  go_ret
  exact ⟨rfl, rfl⟩
theorem bsi36 (D : Nat) (hD : D < 65536) (w : World) : Calls Tryd.prog 36 #[.int .u16 (D : Int)] w fun e w' => e = .returned (.int .u8 ((D / 4096 % 8 : Nat) : Int)) ∧ w' = w := by
  have h : bits .and .u16 ((D : Int) / 4096) 7 = ((D / 4096 % 8 : Nat) : Int) := and16 (D / 4096) 3 (by omega) (by omega)
  have h2 : D / 4096 % 8 < 8 := Nat.mod_lt _ (by omega)
  generalize D / 4096 % 8 = k at h h2 ⊢
  go_enter Tryd.func36, Tryd.ntmps36
  go_wp2
  go_ret
  exact ⟨rfl, rfl⟩
theorem valid37 (k : Nat) (h : 4 ≤ k ∧ k ≤ 7) (w : World) : Calls Tryd.prog 37 #[.int .u8 (k : Int)] w fun e w' => e = .returned (.bool true) ∧ w' = w := by
  obtain rfl | rfl | rfl | rfl : k = 4 ∨ k = 5 ∨ k = 6 ∨ k = 7 := by omega
  all_goals
    go_enter Tryd.func37, Tryd.ntmps37
    go_wp2
    go_ret
    exact ⟨rfl, rfl⟩
theorem legacy29 (f : Nat) (M : Int) (w : World) (h : w.cell? ⟨f, 15, none⟩ = some (.int .u32 M)) : Calls Tryd.prog 29 #[.pointer (some ⟨f, 0, none⟩)] w fun e w' => e = .returned (.bool (M == 407642370)) ∧ w' = w := by
  go_enter Tryd.func29, Tryd.ntmps29
  go_wp2
  go_ret
  exact ⟨rfl, rfl⟩
theorem descr34 (a : Option Addr) (n cap : Nat) (D : Nat → Int) (hb : ∀ i, 0 ≤ D i ∧ D i ≤ 255) (hm : n ≤ 65536) (hcap : n ≤ cap) (hcm : cap ≤ 9223372036854775807) (w : World)
    (hc : n = 0 ∨ ∃ b off, a = some ⟨b, off, none⟩ ∧ ∀ i, i < n → w.cell? ⟨b, off + i, none⟩ = some (.int .u8 (D i))) :
    Calls Tryd.prog 34 #[.slice a n cap] w fun e w' => e = .returned (.int .u8 (sumOf D n / 256 % 256)) ∧ ∃ m, w' = w.drewN m := by
  have HC := Lib.hid hc
  have HB := Lib.hid hb
  clear hc hb
  go_enter Tryd.func34, Tryd.ntmps34
  go_wp2_with (first
    | (go_at_call 39; go_enter Tryd.func39, Tryd.ntmps39)
    | (go_at_call 40; refine Calls.mono (csum_any a n cap D HB.out hm hcap hcm w HC.out) ?_; rintro e w2 ⟨rfl, m, rfl⟩))
  go_ret
  exact ⟨rfl, _, rfl⟩
theorem le28g (b k len cap : Nat) (w : World) (hlen : 4 ≤ len) (hc : ∀ j, j < 4 → ∃ x, w.cell? ⟨b, k + j, none⟩ = some (.int .u8 x) ∧ 0 ≤ x ∧ x ≤ 255) :
    Calls Tryd.prog 28 #[.slice (some ⟨b, k, none⟩) len cap] w fun e w' => (∃ y, e = .returned (.int .u32 y) ∧ 0 ≤ y ∧ y ≤ 4294967295) ∧ ∃ m, w' = w.drewN m := by
  obtain ⟨x0, c0, a0⟩ := hc 0 (by omega)
  obtain ⟨x1, c1, a1⟩ := hc 1 (by omega)
  obtain ⟨x2, c2, a2⟩ := hc 2 (by omega)
  obtain ⟨x3, c3, a3⟩ := hc 3 (by omega)
  refine Calls.mono (le28 b k len cap x0 x1 x2 x3 w hlen c0 c1 c2 c3 a0 a1 a2 a3) ?_
  rintro e w' ⟨rfl, hm⟩
  have h := le4_num x0 x1 x2 x3 a0 a1 a2 a3
  exact ⟨⟨_, rfl, by omega, by omega⟩, hm⟩
theorem le33 (b o : Nat) (len cap : Nat) (X : Nat → Int) (w : World) (hlen : 8 ≤ len) (hcap : len ≤ cap) (hcap2 : cap ≤ 1000000) (c : ∀ j, j < 8 → w.cell? ⟨b, o + j, none⟩ = some (.int .u8 (X j))) (hX : ∀ j, 0 ≤ X j ∧ X j ≤ 255) :
    Calls Tryd.prog 33 #[.slice (some ⟨b, o, none⟩) len cap] w fun e w' => (∃ y, e = .returned (.int .u64 y)) ∧ ∃ m, w' = w.drewN m := by
  have l7 : (7 : Int) < (len : Int) := by omega
  have l4 : (4 : Int) ≤ (len : Int) := by omega
  have l0' : 0 < len := by omega
  have c7 := c 7 (by omega)
  have HC := Lib.hid c
  have HC4 : Hid (∀ j, j < 4 → ∃ x, w.cell? ⟨b, o + j, none⟩ = some (.int .u8 x) ∧ 0 ≤ x ∧ x ≤ 255) := Lib.hid fun j hj => ⟨_, c j (by omega), hX j⟩
  have HC8 : Hid (∀ j, j < 4 → ∃ x, w.cell? ⟨b, o + 4 + j, none⟩ = some (.int .u8 x) ∧ 0 ≤ x ∧ x ≤ 255) := Lib.hid fun j hj => ⟨_, by rw [Nat.add_assoc]; exact c (4 + j) (by omega), hX _⟩
  clear c hX
  go_enter Tryd.func33, Tryd.ntmps33
  go_wp2
  go_region_with (
    go_at_call 28
    refine Calls.mono (le28g _ _ _ _ _ (by omega) (by first | exact HC4.out | exact HC8.out)) ?_
    rintro e w2 ⟨⟨y, rfl, y0, y1⟩, m, rfl⟩)
  all_goals
    go_wp2
    go_ret
    exact ⟨⟨_, rfl⟩, _, rfl⟩
end Go.Proofs.YtbadknelbdkpmaaDoor
