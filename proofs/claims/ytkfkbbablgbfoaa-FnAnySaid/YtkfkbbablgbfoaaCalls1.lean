/-
  The callers of decodeBlockGo up to the package lz4: what they answer; the code of an error.
-/
import Derived.Test.YtkfkbbablgbfoaaDec24
import Derived.Test.YtkfkbbablgbfoaaClone
namespace Go.Proofs.Ytkfkbbablgbfoaa
open Go.RowKit
set_option linter.unusedVariables false
set_option maxHeartbeats 1000000
theorem c23 {V : Nat → Int} {g N : Nat} {w : World} {r : Option (List Int)} (d s di : Value) (h : Calls Try.prog 24 #[d, s, di] w (Told V g N w r)) : Calls Try.prog 23 #[d, s, di] w (Told V g N w r) := by
  go_enter Try.func23, Try.ntmps23
  cases r with
  | none =>
    go_wp2_with (go_at_call 24; refine Calls.mono h ?_; rintro e w' ⟨rfl, hg⟩)
    go_ret
    exact ⟨rfl, hg⟩
  | some out =>
    go_wp2_with (go_at_call 24; refine Calls.mono h ?_; rintro e w' ⟨rfl, hg, hl, V', hD', hv⟩)
    go_ret
    exact ⟨rfl, hg, hl, V', hD', hv⟩
/-- lz4errors.ErrInvalidSourceShortBuffer -/
def shortErr : Value := .iface 53 (.string { data := #[108, 122, 52, 58, 32, 105, 110, 118, 97, 108, 105, 100, 32, 115, 111, 117, 114, 99, 101, 32, 111, 114, 32, 100, 101, 115, 116, 105, 110, 97, 116, 105, 111, 110, 32, 98, 117, 102, 102, 101, 114, 32, 116, 111, 111, 32, 115, 104, 111, 114, 116] })
/-- what UncompressBlock answers -/
def Told2 (V : Nat → Int) (g N : Nat) (w : World) : Option (List Int) → Ending → World → Prop
  | none, e, w' => e = .returned (.tuple #[.int .i64 0, shortErr]) ∧ w.grownBy w' (some g)
  | some out, e, w' => e = .returned (.tuple #[.int .i64 (out.length : Int), .nilIface]) ∧ w.grownBy w' (some g) ∧ out.length ≤ N ∧ ∃ V', Dst w' g N V' ∧ Holds V' out
theorem c22 {V : Nat → Int} {g N n nc : Nat} {w : World} {r : Option (List Int)} {sa : Option Addr} (hn : 0 < n) (hn2 : n ≤ 1099511627776) (hN : N ≤ 1099511627776) (d di : Value) (h : Calls Try.prog 24 #[d, .slice sa n nc, di] w (Told V g N w r)) :
    Calls Try.prog 22 #[.slice sa n nc, d, di] w (Told2 V g N w r) := by
  have d0 : decide ((n : Int) = 0) = false := by simp; omega
  have h := c23 _ _ _ h
  go_enter Try.func22, Try.ntmps22
  cases r with
  | none =>
    go_wp2_with (go_at_call 23; refine Calls.mono h ?_; rintro e w' ⟨rfl, hg⟩)
    go_ret2
    exact ⟨rfl, hg⟩
  | some out =>
    go_wp2_with (go_at_call 23; refine Calls.mono h ?_; rintro e w' ⟨rfl, hg, hl, V', hD', hv⟩)
    go_ret2
    exact ⟨rfl, hg, hl, V', hD', hv⟩
theorem c16 {V : Nat → Int} {g N : Nat} {w : World} {r : Option (List Int)} (s d : Value) (h : Calls Try.prog 22 #[s, d, .slice none 0 0] w (Told2 V g N w r)) : Calls Try.prog 16 #[s, d] w (Told2 V g N w r) := by
  go_enter Try.func16, Try.ntmps16
  cases r with
  | none =>
    go_wp2_with (go_at_call 22; refine Calls.mono h ?_; rintro e w' ⟨rfl, hg⟩)
    go_ret2
    exact ⟨rfl, hg⟩
  | some out =>
    go_wp2_with (go_at_call 22; refine Calls.mono h ?_; rintro e w' ⟨rfl, hg, hl, V', hD', hv⟩)
    go_ret2
    exact ⟨rfl, hg, hl, V', hD', hv⟩
theorem c20 {V : Nat → Int} {g N : Nat} {w : World} {r : Option (List Int)} (s d di : Value) (h : Calls Try.prog 22 #[s, d, di] w (Told2 V g N w r)) : Calls Try.prog 20 #[s, d, di] w (Told2 V g N w r) := by
  go_enter Try.func20, Try.ntmps20
  cases r with
  | none =>
    go_wp2_with (go_at_call 22; refine Calls.mono h ?_; rintro e w' ⟨rfl, hg⟩)
    go_ret2
    exact ⟨rfl, hg⟩
  | some out =>
    go_wp2_with (go_at_call 22; refine Calls.mono h ?_; rintro e w' ⟨rfl, hg, hl, V', hD', hv⟩)
    go_ret2
    exact ⟨rfl, hg, hl, V', hD', hv⟩
theorem short_eq (w : World) : (binOp BinOp.eql 45 shortErr shortErr).run Try.prog w = .ok (.bool true) w := by kernel_rfl
theorem c18 (w : World) : Calls Try.prog 18 #[shortErr] w fun e w' => e = .returned (.int .i64 2) ∧ w' = w := by
  have q := short_eq
  unfold shortErr at q ⊢
  go_enter Try.func18, Try.ntmps18
  go_wp2
  go_ret
  exact ⟨rfl, rfl⟩
end Go.Proofs.Ytkfkbbablgbfoaa
