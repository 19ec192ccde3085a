/-
  The contract of 'checksumZeroGo': over n bytes (up to 65536) it returns 'sumOf', and turns nothing in memory.
-/
import Derived.Test.YtbadknelbdkpmaaDoorPlain
import Derived.Lib.Hide
namespace Go.Proofs.YtbadknelbdkpmaaDoor
open Go.RowKit
set_option linter.unusedVariables false
set_option maxHeartbeats 400000 in
theorem csum_big (b off n cap : Nat) (M : Nat → Int) (hb : ∀ i, 0 ≤ M i ∧ M i ≤ 255) (hn : 16 ≤ n) (hm : n ≤ 65536) (hcap : n ≤ cap) (hcm : cap ≤ 9223372036854775807) (w : World)
    (hc : ∀ i, off ≤ i → i < off + n → w.cell? ⟨b, i, none⟩ = some (.int .u8 (M i))) :
    Calls Tryd.prog 40 #[.slice (some ⟨b, off, none⟩) n cap] w fun e w' => e = .returned (.int .u32 (sumOf (fun i => M (off + i)) n)) ∧ ∃ m, w' = w.drewN m := by
  have h16 : ¬ (n : Int) < 16 := by omega
  have HC := Lib.hid hc
  have HB := Lib.hid hb
  clear hc hb
  go_enter Tryd.func40, Tryd.ntmps40
  go_wp2
  go_loopw [5, 6, 7, 8, 9] (fun v1 v2 v3 v4 p wr => ∃ k x1 x2 x3 x4, 16 * k ≤ n ∧ p = .int .i64 (16 * (k : Int)) ∧ v1 = .int .u32 x1 ∧ v2 = .int .u32 x2 ∧ v3 = .int .u32 x3 ∧ v4 = .int .u32 x4 ∧ Lanes (fun i => M (off + i)) k x1 x2 x3 x4 ∧ ∃ m, wr = w.drewN m)
    (fun _ _ _ _ p _ => n - (intOf p).toNat)
  case atStart => exact ⟨0, _, _, _, _, by omega, by go_num, rfl, rfl, rfl, rfl, Lanes.zero _, 0, rfl⟩
  case round =>
    obtain ⟨k, x1, x2, x3, x4, hk, rfl, rfl, rfl, rfl, rfl, hL, m, rfl⟩ := hrel
    by_cases hlt : 16 * k + 16 ≤ n
    · go_wp2_with (first
        | (go_at_call 42; refine Calls.mono (le_mem M _ _ off (off + n) _ _ _ (by omega) HC.out HB.out (by omega) (by omega)) ?_; rintro e w' ⟨rfl, m', rfl⟩)
        | (go_at_call 41; refine Calls.mono (rol13_any _ (by omega) (by omega) _) ?_; rintro e w' ⟨rfl, rfl⟩))
      go_roundw
      case rel =>
        have hS := hL.step
        simp only [rnd, leD, ← Nat.add_assoc] at hS
        exact ⟨k + 1, _, _, _, _, by omega, by go_num, rfl, rfl, rfl, rfl, hS, _, rfl⟩
      case measure => simp [intOf]; omega
    · have hk1 : n - 16 * k < 16 := by omega
      have hd1 : decide (16 * (k : Int) ≤ (n : Int) - 16) = false := by simp; omega
      have hb1 := hL.2
      have HL := Lib.hid hL
      clear hL
      by_cases hcap2 : cap = 16 * k
      · have HE := Lib.hid hcap2
        go_wp2_with (first
          | (go_at_call 43; refine Calls.mono (rol1_any _ (by omega) (by omega) _) ?_; rintro e w' ⟨rfl, rfl⟩)
          | (go_at_call 44; refine Calls.mono (rol7_any _ (by omega) (by omega) _) ?_; rintro e w' ⟨rfl, rfl⟩)
          | (go_at_call 45; refine Calls.mono (rol12_any _ (by omega) (by omega) _) ?_; rintro e w' ⟨rfl, rfl⟩)
          | (go_at_call 46; refine Calls.mono (rol18_any _ (by omega) (by omega) _) ?_; rintro e w' ⟨rfl, rfl⟩))
        go_loopw [4, 12] (fun h p wr => ∃ hh, p = .int .i64 (0 : Nat) ∧ h = .int .u32 hh ∧ Hid (hh = folded n x1 x2 x3 x4) ∧ 0 ≤ hh ∧ hh ≤ 4294967295 ∧ ∃ m, wr = w.drewN m)
          (fun _ p _ => 0)
        case atStart => exact ⟨_, rfl, rfl, by unfold folded Hid; omega, by omega, by omega, m, rfl⟩
        case round =>
          obtain ⟨hh, rfl, rfl, HT, hh0, hh1, m, rfl⟩ := hrel
          have hd2 : decide (0 ≤ (n : Int) - 16 * (k : Int) - 4) = false := by simp; omega
          go_wp2
          go_loopw [4, 12] (fun h p wr => p = .int .i64 (0 : Nat) ∧ h = .int .u32 hh ∧ ∃ m, wr = w.drewN m)
            (fun _ p _ => 0)
          case atStart => exact ⟨rfl, rfl, m, rfl⟩
          case round =>
            obtain ⟨rfl, rfl, m, rfl⟩ := hrel
            have hd3 : decide (0 < (n : Int) - 16 * (k : Int)) = false := by simp; omega
            go_wp2
            go_ret
            refine ⟨ret_u32 ?_, _, rfl⟩
            rw [sumOf_big (j := 0) (i := 0) hn hk (by omega) (by omega) (by omega) (by omega) HL.out]
            unfold tail1 tail4
            rw [← HT.out]
            rfl
      · have hcl : 16 * k < cap := by omega
        go_wp2_with (first
          | (go_at_call 43; refine Calls.mono (rol1_any _ (by omega) (by omega) _) ?_; rintro e w' ⟨rfl, rfl⟩)
          | (go_at_call 44; refine Calls.mono (rol7_any _ (by omega) (by omega) _) ?_; rintro e w' ⟨rfl, rfl⟩)
          | (go_at_call 45; refine Calls.mono (rol12_any _ (by omega) (by omega) _) ?_; rintro e w' ⟨rfl, rfl⟩)
          | (go_at_call 46; refine Calls.mono (rol18_any _ (by omega) (by omega) _) ?_; rintro e w' ⟨rfl, rfl⟩))
        simp only [Int.emod_add_emod, Int.add_emod_emod]
        go_loopw [4, 12] (fun h p wr => ∃ j hh, 16 * k + 4 * j ≤ n ∧ p = .int .i64 (4 * (j : Int)) ∧ h = .int .u32 hh ∧ Hid (hh = tail4 (fun i => M (off + (16 * k + i))) (folded n x1 x2 x3 x4) j) ∧ 0 ≤ hh ∧ hh ≤ 4294967295 ∧ ∃ m, wr = w.drewN m)
          (fun _ p _ => n - (intOf p).toNat)
        case atStart => exact ⟨0, _, by omega, by go_num, rfl, by unfold folded Hid tail4; omega, by omega, by omega, m, rfl⟩
        case round =>
          obtain ⟨j, hh, hj, rfl, rfl, HT, hh0, hh1, m, rfl⟩ := hrel
          by_cases hjt : 16 * k + 4 * j + 4 ≤ n
          · go_wp2_with (first
              | (go_at_call 42; refine Calls.mono (le_mem M _ _ off (off + n) _ _ _ (by omega) HC.out HB.out (by omega) (by omega)) ?_; rintro e w' ⟨rfl, m', rfl⟩)
              | (go_at_call 47; refine Calls.mono (rol17_any _ (by omega) (by omega) _) ?_; rintro e w' ⟨rfl, rfl⟩))
            go_roundw
            case rel =>
              exact ⟨j + 1, _, by omega, by go_num, rfl, tail4_step HT.out, by omega, by omega, _, rfl⟩
            case measure => simp [intOf]; omega
          · have hd2 : decide (4 * (j : Int) ≤ (n : Int) - 16 * (k : Int) - 4) = false := by simp; omega
            go_wp2
            go_loopw [4, 12] (fun h p wr => ∃ i hh, 16 * k + 4 * j + i ≤ n ∧ p = .int .i64 (4 * (j : Int) + (i : Int)) ∧ h = .int .u32 hh ∧ Hid (∃ h0, h0 = tail4 (fun i => M (off + (16 * k + i))) (folded n x1 x2 x3 x4) j ∧ hh = tail1 (fun i => M (off + (16 * k + 4 * j + i))) h0 i) ∧ 0 ≤ hh ∧ hh ≤ 4294967295 ∧ ∃ m, wr = w.drewN m)
              (fun _ p _ => n - (intOf p).toNat)
            case atStart => exact ⟨0, hh, by omega, by go_num, rfl, ⟨_, HT.out, rfl⟩, by omega, by omega, m, rfl⟩
            case round =>
              clear HT hh0 hh1
              obtain ⟨i, hh, hi, rfl, rfl, HT, hh0, hh1, m, rfl⟩ := hrel
              by_cases hit : 16 * k + 4 * j + i < n
              · have hcx : w.cell? ⟨b, off + 16 * k + (4 * j + i), none⟩ = some (.int .u8 (M (off + 16 * k + (4 * j + i)))) := HC.out _ (by omega) (by omega)
                have hbx := HB.out (off + 16 * k + (4 * j + i))
                go_wp2_with (first
                  | (go_at_call 48; refine Calls.mono (rol11_any _ (by omega) (by omega) _) ?_; rintro e w' ⟨rfl, rfl⟩))
                go_roundw
                case rel =>
                  obtain ⟨h0, ht4, ht1⟩ := HT.out
                  exact ⟨i + 1, _, by omega, by go_num, rfl, ⟨h0, ht4, tail1_step ht1⟩, by omega, by omega, m, rfl⟩
                case measure => simp [intOf]; omega
              · have hie : 16 * k + 4 * j + i = n := by omega
                have hd3 : decide (4 * (j : Int) + i < (n : Int) - 16 * (k : Int)) = false := by simp; omega
                go_wp2
                go_ret
                obtain ⟨h0, ht4, ht1⟩ := HT.out
                refine ⟨ret_u32 ?_, _, rfl⟩
                rw [sumOf_big hn hk (by omega) (by omega) (by omega) hie HL.out, ← ht4, ← ht1]
                rfl
set_option maxHeartbeats 400000 in
theorem csum_small (b off n cap : Nat) (M : Nat → Int) (hb : ∀ i, 0 ≤ M i ∧ M i ≤ 255) (hn : n < 16) (hcap : n ≤ cap) (hcm : cap ≤ 9223372036854775807) (w : World)
    (hc : ∀ i, off ≤ i → i < off + n → w.cell? ⟨b, i, none⟩ = some (.int .u8 (M i))) :
    Calls Tryd.prog 40 #[.slice (some ⟨b, off, none⟩) n cap] w fun e w' => e = .returned (.int .u32 (sumOf (fun i => M (off + i)) n)) ∧ ∃ m, w' = w.drewN m := by
  have h16 : (n : Int) < 16 := by omega
  have HC := Lib.hid hc
  have HB := Lib.hid hb
  clear hc hb
  go_enter Tryd.func40, Tryd.ntmps40
  go_wp2
  go_loopw [4, 12] (fun h p wr => ∃ j hh, 4 * j ≤ n ∧ p = .int .i64 (4 * (j : Int)) ∧ h = .int .u32 hh ∧ Hid (hh = tail4 (fun i => M (off + i)) (((n : Int) + 374761393) % 4294967296) j) ∧ 0 ≤ hh ∧ hh ≤ 4294967295 ∧ ∃ m, wr = w.drewN m)
    (fun _ p _ => n - (intOf p).toNat)
  case atStart => exact ⟨0, _, by omega, by go_num, rfl, by unfold Hid tail4; omega, by omega, by omega, 0, rfl⟩
  case round =>
    obtain ⟨j, hh, hj, rfl, rfl, HT, hh0, hh1, m, rfl⟩ := hrel
    by_cases hjt : 4 * j + 4 ≤ n
    · go_wp2_with (first
        | (go_at_call 42; refine Calls.mono (le_mem M _ _ off (off + n) _ _ _ (by omega) HC.out HB.out (by omega) (by omega)) ?_; rintro e w' ⟨rfl, m', rfl⟩)
        | (go_at_call 47; refine Calls.mono (rol17_any _ (by omega) (by omega) _) ?_; rintro e w' ⟨rfl, rfl⟩))
      go_roundw
      case rel =>
        exact ⟨j + 1, _, by omega, by go_num, rfl, tail4_step0 HT.out, by omega, by omega, _, rfl⟩
      case measure => simp [intOf]; omega
    · have hd2 : decide (4 * (j : Int) ≤ (n : Int) - 4) = false := by simp; omega
      go_wp2
      go_loopw [4, 12] (fun h p wr => ∃ i hh, 4 * j + i ≤ n ∧ p = .int .i64 (4 * (j : Int) + (i : Int)) ∧ h = .int .u32 hh ∧ Hid (∃ h0, h0 = tail4 (fun i => M (off + i)) (((n : Int) + 374761393) % 4294967296) j ∧ hh = tail1 (fun i => M (off + (4 * j + i))) h0 i) ∧ 0 ≤ hh ∧ hh ≤ 4294967295 ∧ ∃ m, wr = w.drewN m)
        (fun _ p _ => n - (intOf p).toNat)
      case atStart => exact ⟨0, hh, by omega, by go_num, rfl, ⟨_, HT.out, rfl⟩, by omega, by omega, m, rfl⟩
      case round =>
        clear HT hh0 hh1
        obtain ⟨i, hh, hi, rfl, rfl, HT, hh0, hh1, m, rfl⟩ := hrel
        by_cases hit : 4 * j + i < n
        · have hcx : w.cell? ⟨b, off + (4 * j + i), none⟩ = some (.int .u8 (M (off + (4 * j + i)))) := HC.out _ (by omega) (by omega)
          have hbx := HB.out (off + (4 * j + i))
          go_wp2_with (first
            | (go_at_call 48; refine Calls.mono (rol11_any _ (by omega) (by omega) _) ?_; rintro e w' ⟨rfl, rfl⟩))
          go_roundw
          case rel =>
            obtain ⟨h0, ht4, ht1⟩ := HT.out
            exact ⟨i + 1, _, by omega, by go_num, rfl, ⟨h0, ht4, tail1_step0 ht1⟩, by omega, by omega, m, rfl⟩
          case measure => simp [intOf]; omega
        · have hie : 4 * j + i = n := by omega
          have hd3 : decide (4 * (j : Int) + i < (n : Int)) = false := by simp; omega
          go_wp2
          go_ret
          obtain ⟨h0, ht4, ht1⟩ := HT.out
          refine ⟨ret_u32 ?_, _, rfl⟩
          rw [sumOf_small hn (by omega) (by omega) hie, ← ht4, ← ht1]
          rfl
theorem csum_zero (a : Option Addr) (cap : Nat) (D : Nat → Int) (hcm : cap ≤ 9223372036854775807) (w : World) :
    Calls Tryd.prog 40 #[.slice a 0 cap] w fun e w' => e = .returned (.int .u32 (sumOf D 0)) ∧ ∃ m, w' = w.drewN m := by
  go_enter Tryd.func40, Tryd.ntmps40
  go_wp2
  go_loopw [4, 12] (fun h p wr => ∃ hh, p = .int .i64 0 ∧ h = .int .u32 hh ∧ Hid (hh = 374761393) ∧ 0 ≤ hh ∧ hh ≤ 4294967295 ∧ ∃ m, wr = w.drewN m)
    (fun _ p _ => 0)
  case atStart => exact ⟨_, rfl, rfl, rfl, by omega, by omega, 0, rfl⟩
  case round =>
    obtain ⟨hh, rfl, rfl, HT, hh0, hh1, m, rfl⟩ := hrel
    go_wp2
    go_loopw [4, 12] (fun h p wr => p = .int .i64 0 ∧ h = .int .u32 hh ∧ ∃ m, wr = w.drewN m)
      (fun _ p _ => 0)
    case atStart => exact ⟨rfl, rfl, m, rfl⟩
    case round =>
      obtain ⟨rfl, rfl, m, rfl⟩ := hrel
      go_wp2
      go_ret
      refine ⟨ret_u32 ?_, _, rfl⟩
      rw [sumOf_small (j := 0) (i := 0) (by omega) (by omega) (by omega) (by omega)]
      unfold tail1 tail4
      rw [show (((0 : Nat) : Int) + 374761393) % 4294967296 = hh from HT.out.symm]
      rfl
/-- a row of bytes: nothing, or n bytes of a block -/
theorem csum_any (a : Option Addr) (n cap : Nat) (D : Nat → Int) (hb : ∀ i, 0 ≤ D i ∧ D i ≤ 255) (hm : n ≤ 65536) (hcap : n ≤ cap) (hcm : cap ≤ 9223372036854775807) (w : World)
    (hc : n = 0 ∨ ∃ b off, a = some ⟨b, off, none⟩ ∧ ∀ i, i < n → w.cell? ⟨b, off + i, none⟩ = some (.int .u8 (D i))) :
    Calls Tryd.prog 40 #[.slice a n cap] w fun e w' => e = .returned (.int .u32 (sumOf D n)) ∧ ∃ m, w' = w.drewN m := by
  rcases hc with rfl | ⟨b, off, rfl, hc⟩
  · exact csum_zero a cap D hcm w
  · have e : D = fun i => (fun j => D (j - off)) (off + i) := by funext i; simp
    have hc' : ∀ i, off ≤ i → i < off + n → w.cell? ⟨b, i, none⟩ = some (.int .u8 ((fun j => D (j - off)) i)) := by
      intro i h1 h2
      have := hc (i - off) (by omega)
      rwa [show off + (i - off) = i by omega] at this
    rw [e]
    by_cases h : n < 16
    · exact csum_small b off n cap (fun j => D (j - off)) (fun i => hb _) h hcap hcm w hc'
    · exact csum_big b off n cap (fun j => D (j - off)) (fun i => hb _) (by omega) hm hcap hcm w hc'
end Go.Proofs.YtbadknelbdkpmaaDoor
