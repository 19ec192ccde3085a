/-
  spec.more: a number, and the bytes that lengthen it.
-/
import Derived.Test.YtkfkbbablgbfoaaCalls1
namespace Go.Proofs.Ytkfkbbablgbfoaa
open Go.RowKit
set_option linter.unusedVariables false
set_option maxHeartbeats 1000000
set_option maxRecDepth 20000
theorem more_small {a : Option Addr} {n c : Nat} {w : World} (at0 k : Nat) (h : k < 15) :
    Calls Try.prog 15 #[.slice a n c, .int .i64 (at0 : Int), .int .i64 (k : Int)] w fun e w' => e = .returned (.tuple #[.int .i64 (k : Int), .int .i64 (at0 : Int), .bool true]) ∧ w' = w := by
  go_enter Try.func15, Try.ntmps15
  have d1 : decide ((k : Int) < 15) = true := by simp; omega
  go_wp2
  go_ret3
  exact ⟨rfl, rfl⟩
theorem more_ext {a : Option Addr} {n c : Nat} {S : Nat → Int} {w : World} (at0 k e : Nat) (hM : Mem w .u8 a n c S) (hn : n ≤ 1000000) (hE : Ext S n at0 k e) :
    Calls Try.prog 15 #[.slice a n c, .int .i64 (at0 : Int), .int .i64 15] w fun r w' => r = .returned (.tuple #[.int .i64 (15 + 255 * (k : Int) + (e : Int)), .int .i64 ((at0 : Int) + (k : Int) + 1), .bool true]) ∧ w' = w := by
  obtain ⟨h1, h2, h3 | ⟨b, off, rfl, hc⟩⟩ := hM
  · have := hE.2.2.2; omega
  obtain ⟨e1, e2, e3, e4⟩ := hE
  have HC := Lib.hid hc
  have H1 := Lib.hid e1
  have H2 := Lib.hid e2
  clear hc e1 e2
  go_enter Try.func15, Try.ntmps15
  go_wp2
  go_loopw [1, 2] (fun x y wr => ∃ j : Nat, j ≤ k ∧ x = .int .i64 ((at0 : Int) + (j : Int)) ∧ y = .int .i64 (15 + 255 * (j : Int)) ∧ wr = w)
    (fun x _ _ => match x with | .int _ r => n - r.toNat | _ => 0)
  case atStart => exact ⟨0, by omega, by simp, by simp, rfl⟩
  case round =>
    obtain ⟨j, hj, rfl, rfl, rfl⟩ := hrel
    by_cases hjk : j < k
    · have c0 := HC.out (at0 + j) (by omega)
      rw [H1.out j hjk] at c0
      have l1 : (at0 : Int) + (j : Int) < (n : Int) := by omega
      have n1 : ((at0 : Int) + (j : Int)).toNat = at0 + j := by omega
      go_wp2
      have x1 : (at0 : Int) + (j : Int) + 1 = (at0 : Int) + ((j + 1 : Nat) : Int) := by omega
      have x2 : 15 + 255 * (j : Int) + 255 = 15 + 255 * ((j + 1 : Nat) : Int) := by omega
      refine ⟨⟨j + 1, by omega, by rw [x1], by rw [x2], trivial⟩, ?_⟩
      show n - ((at0 : Int) + (j : Int) + 1).toNat < n - ((at0 : Int) + (j : Int)).toNat
      omega
    · have hjk2 : j = k := by omega
      have c0 := HC.out (at0 + j) (by omega)
      rw [hjk2, H2.out, ← hjk2] at c0
      have l1 : (at0 : Int) + (j : Int) < (n : Int) := by omega
      have n1 : ((at0 : Int) + (j : Int)).toNat = at0 + j := by omega
      have d1 : decide ((e : Int) < 255) = true := by simp; omega
      have HJ := Lib.hid hjk2
      clear hjk2 hjk hj e4
      go_wp2
      go_ret3
      have hj := HJ.out
      subst hj
      exact ⟨rfl, rfl⟩
theorem more_none {a : Option Addr} {n c : Nat} {S : Nat → Int} {w : World} (at0 : Nat) (hM : Mem w .u8 a n c S) (hn : n ≤ 1000000) (ha : at0 ≤ n) (hE : NoExt S n at0) :
    Calls Try.prog 15 #[.slice a n c, .int .i64 (at0 : Int), .int .i64 15] w fun r w' => (∃ x, r = .returned (.tuple #[.int .i64 x, .int .i64 (n : Int), .bool false])) ∧ w' = w := by
  obtain ⟨h1, h2, h3⟩ := hM
  have HC : Hid (∀ i, i < n → ∃ b off, a = some ⟨b, off, none⟩ ∧ w.cell? ⟨b, off + i, none⟩ = some (.int .u8 (S i))) := Lib.hid fun i hi => by
    rcases h3 with h3 | ⟨b, off, h4, hc⟩
    · omega
    · exact ⟨b, off, h4, hc i hi⟩
  have H1 := Lib.hid hE
  clear hE h3
  go_enter Try.func15, Try.ntmps15
  go_wp2
  go_loopw [1, 2] (fun x y wr => ∃ j : Nat, at0 + j ≤ n ∧ x = .int .i64 ((at0 : Int) + (j : Int)) ∧ y = .int .i64 (15 + 255 * (j : Int)) ∧ wr = w)
    (fun x _ _ => match x with | .int _ r => n - r.toNat | _ => 0)
  case atStart => exact ⟨0, by omega, by simp, by simp, rfl⟩
  case round =>
    obtain ⟨j, hj, rfl, rfl, rfl⟩ := hrel
    by_cases hjk : at0 + j < n
    · obtain ⟨b, off, rfl, c0⟩ := HC.out (at0 + j) hjk
      rw [H1.out (at0 + j) (by omega) hjk] at c0
      have l1 : (at0 : Int) + (j : Int) < (n : Int) := by omega
      have n1 : ((at0 : Int) + (j : Int)).toNat = at0 + j := by omega
      go_wp2
      have x1 : (at0 : Int) + (j : Int) + 1 = (at0 : Int) + ((j + 1 : Nat) : Int) := by omega
      have x2 : 15 + 255 * (j : Int) + 255 = 15 + 255 * ((j + 1 : Nat) : Int) := by omega
      refine ⟨⟨j + 1, by omega, by rw [x1], by rw [x2], trivial⟩, ?_⟩
      show n - ((at0 : Int) + (j : Int) + 1).toNat < n - ((at0 : Int) + (j : Int)).toNat
      omega
    · have hjn : (at0 : Int) + (j : Int) = (n : Int) := by omega
      have HJ := Lib.hid hjn
      rw [hjn]
      have l1 : ¬ n < n := by omega
      clear hjk hj hjn
      go_wp2
      go_ret3
      exact ⟨⟨_, rfl⟩, rfl⟩
end Go.Proofs.Ytkfkbbablgbfoaa
