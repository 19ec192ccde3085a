/-
  Contracts of the small functions of 'xxh32' and 'spec' that FnSum and FnSumPieces reach: turning a word's bits, the word of four bytes. They hold for every word (0 to 2^32 - 1) and every four bytes that lie at the place.
-/
import Derived.Test.YtbadknelbdkpmaaDoorRows
import Derived.WalkKit
import Derived.WalkSpells
import Derived.WalkLawsBesides
import Derived.OpenShut
import Derived.Deep.QuietTactic
import Derived.BigQuiet
namespace Go.Proofs.YtbadknelbdkpmaaDoor
open Go.RowKit
set_option linter.unusedVariables false

/-- a word's bits turned to the left by n, as the walk spells it -/
def rl (n : Nat) (x : Int) : Int := bits .or .u32 (x * 2 ^ n % 4294967296) (x / 2 ^ (32 - n))
/-- the number of four bytes, the lowest first -/
def le4 (a b c d : Int) : Int := bits .or .u32 (bits .or .u32 (bits .or .u32 a (b * 256)) (c * 65536)) (d * 16777216)

/-- the word of four bytes from place o on -/
def leM (M : Nat → Int) (o : Nat) : Int := le4 (M o) (M (o + 1)) (M (o + 2)) (M (o + 3))
theorem rol1_any (x : Int) (h0 : 0 ≤ x) (h1 : x ≤ 4294967295) (w : World) :
    Calls Tryd.prog 43 #[.int .u32 x] w fun e w' => e = .returned (.int .u32 (rl 1 x)) ∧ w = w' := by
  go_enter Tryd.func43, Tryd.ntmps43
  go_wp2
  go_ret
  exact ⟨rfl, rfl⟩
theorem rol7_any (x : Int) (h0 : 0 ≤ x) (h1 : x ≤ 4294967295) (w : World) :
    Calls Tryd.prog 44 #[.int .u32 x] w fun e w' => e = .returned (.int .u32 (rl 7 x)) ∧ w = w' := by
  go_enter Tryd.func44, Tryd.ntmps44
  go_wp2
  go_ret
  exact ⟨rfl, rfl⟩
theorem rol12_any (x : Int) (h0 : 0 ≤ x) (h1 : x ≤ 4294967295) (w : World) :
    Calls Tryd.prog 45 #[.int .u32 x] w fun e w' => e = .returned (.int .u32 (rl 12 x)) ∧ w = w' := by
  go_enter Tryd.func45, Tryd.ntmps45
  go_wp2
  go_ret
  exact ⟨rfl, rfl⟩
theorem rol18_any (x : Int) (h0 : 0 ≤ x) (h1 : x ≤ 4294967295) (w : World) :
    Calls Tryd.prog 46 #[.int .u32 x] w fun e w' => e = .returned (.int .u32 (rl 18 x)) ∧ w = w' := by
  go_enter Tryd.func46, Tryd.ntmps46
  go_wp2
  go_ret
  exact ⟨rfl, rfl⟩
theorem rol13_any (x : Int) (h0 : 0 ≤ x) (h1 : x ≤ 4294967295) (w : World) :
    Calls Tryd.prog 41 #[.int .u32 x] w fun e w' => e = .returned (.int .u32 (rl 13 x)) ∧ w = w' := by
  go_enter Tryd.func41, Tryd.ntmps41
  go_wp2
  go_ret
  exact ⟨rfl, rfl⟩
theorem rol17_any (x : Int) (h0 : 0 ≤ x) (h1 : x ≤ 4294967295) (w : World) :
    Calls Tryd.prog 47 #[.int .u32 x] w fun e w' => e = .returned (.int .u32 (rl 17 x)) ∧ w = w' := by
  go_enter Tryd.func47, Tryd.ntmps47
  go_wp2
  go_ret
  exact ⟨rfl, rfl⟩
theorem rol11_any (x : Int) (h0 : 0 ≤ x) (h1 : x ≤ 4294967295) (w : World) :
    Calls Tryd.prog 48 #[.int .u32 x] w fun e w' => e = .returned (.int .u32 (rl 11 x)) ∧ w = w' := by
  go_enter Tryd.func48, Tryd.ntmps48
  go_wp2
  go_ret
  exact ⟨rfl, rfl⟩
theorem turn_any (x : Int) (n : Nat) (h0 : 0 ≤ x) (h1 : x ≤ 4294967295) (h : n = 1 ∨ n = 7 ∨ n = 11 ∨ n = 12 ∨ n = 13 ∨ n = 17 ∨ n = 18) (w : World) :
    Calls Tryd.prog 17 #[.int .u32 x, .int .i64 n] w fun e w' => e = .returned (.int .u32 (rl n x)) ∧ ∃ m, w' = w.drewN m := by
  rcases h with h | h | h | h | h | h | h <;> subst h <;>
   (go_enter Tryd.func17, Tryd.ntmps17
    go_wp2
    go_quiet (fail)
    go_wp2
    go_ret
    exact ⟨rfl, _, rfl⟩)
theorem turn1_any (x : Int) (h0 : 0 ≤ x) (h1 : x ≤ 4294967295) (w : World) :
    Calls Tryd.prog 17 #[.int .u32 x, .int .i64 1] w fun e w' => e = .returned (.int .u32 (rl 1 x)) ∧ ∃ m, w' = w.drewN m := turn_any x 1 h0 h1 (by omega) w
theorem turn7_any (x : Int) (h0 : 0 ≤ x) (h1 : x ≤ 4294967295) (w : World) :
    Calls Tryd.prog 17 #[.int .u32 x, .int .i64 7] w fun e w' => e = .returned (.int .u32 (rl 7 x)) ∧ ∃ m, w' = w.drewN m := turn_any x 7 h0 h1 (by omega) w
theorem turn11_any (x : Int) (h0 : 0 ≤ x) (h1 : x ≤ 4294967295) (w : World) :
    Calls Tryd.prog 17 #[.int .u32 x, .int .i64 11] w fun e w' => e = .returned (.int .u32 (rl 11 x)) ∧ ∃ m, w' = w.drewN m := turn_any x 11 h0 h1 (by omega) w
theorem turn12_any (x : Int) (h0 : 0 ≤ x) (h1 : x ≤ 4294967295) (w : World) :
    Calls Tryd.prog 17 #[.int .u32 x, .int .i64 12] w fun e w' => e = .returned (.int .u32 (rl 12 x)) ∧ ∃ m, w' = w.drewN m := turn_any x 12 h0 h1 (by omega) w
theorem turn13_any (x : Int) (h0 : 0 ≤ x) (h1 : x ≤ 4294967295) (w : World) :
    Calls Tryd.prog 17 #[.int .u32 x, .int .i64 13] w fun e w' => e = .returned (.int .u32 (rl 13 x)) ∧ ∃ m, w' = w.drewN m := turn_any x 13 h0 h1 (by omega) w
theorem turn17_any (x : Int) (h0 : 0 ≤ x) (h1 : x ≤ 4294967295) (w : World) :
    Calls Tryd.prog 17 #[.int .u32 x, .int .i64 17] w fun e w' => e = .returned (.int .u32 (rl 17 x)) ∧ ∃ m, w' = w.drewN m := turn_any x 17 h0 h1 (by omega) w
theorem turn18_any (x : Int) (h0 : 0 ≤ x) (h1 : x ≤ 4294967295) (w : World) :
    Calls Tryd.prog 17 #[.int .u32 x, .int .i64 18] w fun e w' => e = .returned (.int .u32 (rl 18 x)) ∧ ∃ m, w' = w.drewN m := turn_any x 18 h0 h1 (by omega) w
theorem le_any (b o : Nat) (len cap : Nat) (x0 x1 x2 x3 : Int) (w : World) (hlen : 4 ≤ len)
    (c0 : w.cell? ⟨b, o, none⟩ = some (.int .u8 x0)) (c1 : w.cell? ⟨b, o + 1, none⟩ = some (.int .u8 x1)) (c2 : w.cell? ⟨b, o + 2, none⟩ = some (.int .u8 x2)) (c3 : w.cell? ⟨b, o + 3, none⟩ = some (.int .u8 x3))
    (b0 : 0 ≤ x0 ∧ x0 ≤ 255) (b1 : 0 ≤ x1 ∧ x1 ≤ 255) (b2 : 0 ≤ x2 ∧ x2 ≤ 255) (b3 : 0 ≤ x3 ∧ x3 ≤ 255) :
    Calls Tryd.prog 42 #[.slice (some ⟨b, o, none⟩) len cap] w fun e w' => e = .returned (.int .u32 (le4 x0 x1 x2 x3)) ∧ ∃ m, w' = w.drewN m := by
  have l3 : (3:Int) < len := by omega
  have l2 : (2:Int) < len := by omega
  have l1 : (1:Int) < len := by omega
  have l0' : 0 < len := by omega
  go_enter Tryd.func42, Tryd.ntmps42
  go_wp2
  go_quiet (fail)
  go_wp2
  go_ret
  exact ⟨rfl, _, rfl⟩
theorem four_any (b off : Nat) (len cap at_ : Nat) (x0 x1 x2 x3 : Int) (w : World) (hlen : at_ + 4 ≤ len) (hm : len ≤ 9223372036854775807)
    (c0 : w.cell? ⟨b, off + at_, none⟩ = some (.int .u8 x0)) (c1 : w.cell? ⟨b, off + (at_ + 1), none⟩ = some (.int .u8 x1)) (c2 : w.cell? ⟨b, off + (at_ + 2), none⟩ = some (.int .u8 x2)) (c3 : w.cell? ⟨b, off + (at_ + 3), none⟩ = some (.int .u8 x3))
    (b0 : 0 ≤ x0 ∧ x0 ≤ 255) (b1 : 0 ≤ x1 ∧ x1 ≤ 255) (b2 : 0 ≤ x2 ∧ x2 ≤ 255) (b3 : 0 ≤ x3 ∧ x3 ≤ 255) :
    Calls Tryd.prog 18 #[.slice (some ⟨b, off, none⟩) len cap, .int .i64 at_] w fun e w' => e = .returned (.int .u32 (le4 x0 x1 x2 x3)) ∧ ∃ m, w' = w.drewN m := by
  have l3 : (at_:Int) + 3 < len := by omega
  have l2 : (at_:Int) + 2 < len := by omega
  have l1 : (at_:Int) + 1 < len := by omega
  have l0 : (at_:Int) < len := by omega
  go_enter Tryd.func18, Tryd.ntmps18
  go_wp2
  go_quiet (fail)
  go_wp2
  go_ret
  exact ⟨rfl, _, rfl⟩
/-- the four bytes lie in the view M of block b from place o on -/
theorem le_mem (M : Nat → Int) (b o lo hi : Nat) (len cap : Nat) (w : World) (hlen : 4 ≤ len) (hM : ∀ i, lo ≤ i → i < hi → w.cell? ⟨b, i, none⟩ = some (.int .u8 (M i))) (hb : ∀ i, 0 ≤ M i ∧ M i ≤ 255) (hlo : lo ≤ o) (hhi : o + 4 ≤ hi) :
    Calls Tryd.prog 42 #[.slice (some ⟨b, o, none⟩) len cap] w fun e w' => e = .returned (.int .u32 (le4 (M o) (M (o + 1)) (M (o + 2)) (M (o + 3)))) ∧ ∃ m, w' = w.drewN m :=
  le_any b o len cap _ _ _ _ w hlen (hM _ (by omega) (by omega)) (hM _ (by omega) (by omega)) (hM _ (by omega) (by omega)) (hM _ (by omega) (by omega)) (hb _) (hb _) (hb _) (hb _)
theorem four_mem (M : Nat → Int) (b lo hi off at_ : Nat) (len cap : Nat) (w : World) (hlen : at_ + 4 ≤ len) (hm : len ≤ 9223372036854775807) (hM : ∀ i, lo ≤ i → i < hi → w.cell? ⟨b, i, none⟩ = some (.int .u8 (M i))) (hb : ∀ i, 0 ≤ M i ∧ M i ≤ 255) (hlo : lo ≤ off) (hhi : off + at_ + 4 ≤ hi) :
    Calls Tryd.prog 18 #[.slice (some ⟨b, off, none⟩) len cap, .int .i64 at_] w fun e w' => e = .returned (.int .u32 (leM M (off + at_))) ∧ ∃ m, w' = w.drewN m :=
  four_any b off len cap at_ _ _ _ _ w hlen hm (hM _ (by omega) (by omega)) (hM _ (by omega) (by omega)) (hM _ (by omega) (by omega)) (hM _ (by omega) (by omega)) (hb _) (hb _) (hb _) (hb _)
end Go.Proofs.YtbadknelbdkpmaaDoor
