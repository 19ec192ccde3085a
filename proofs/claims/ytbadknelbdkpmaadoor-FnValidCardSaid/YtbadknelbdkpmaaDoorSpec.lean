/-
  The contract of spec.Sum at the seed 0.
-/
import Derived.Test.YtbadknelbdkpmaaDoorPlain
import Derived.Test.YtbadknelbdkpmaaDoorClone
import Derived.Deep.RegionHeld3
import Derived.Deep.RegionWith
import Derived.Deep.DeepCutAuto
namespace Go.Proofs.YtbadknelbdkpmaaDoor
open Go.RowKit
set_option linter.unusedVariables false
theorem setCell_new (w : World) (cs : Array Value) (e : TypeId) (m i : Nat) (u : Value) :
    ((w.alloc (.cells cs e)).drewN m).setCell ⟨w.heap.size, i, none⟩ u = (w.alloc (.cells (cs.setIfInBounds i u) e)).drewN m := by
  rw [show ((w.alloc (.cells cs e)).drewN m).setCell ⟨w.heap.size, i, none⟩ u = ((w.alloc (.cells cs e)).setCell ⟨w.heap.size, i, none⟩ u).drewN m from rfl, World.setCell_alloc_at _ _ _ _ _ rfl]
theorem new_cell (w : World) (cs : Array Value) (e : TypeId) (m i : Nat) (u : Value) (h : cs[i]? = some u) :
    ((w.alloc (.cells cs e)).drewN m).cell? ⟨w.heap.size, i, none⟩ = some u := by
  simp [World.cell?_alloc_new, h]
set_option maxHeartbeats 1000000 in
theorem ssum_big (b off n cap : Nat) (M : Nat → Int) (hb : ∀ i, 0 ≤ M i ∧ M i ≤ 255) (hn : 16 ≤ n) (hm : n ≤ 65536) (hcap : n ≤ cap) (hcm : cap ≤ 9223372036854775807) (w : World) (hbl : b < w.heap.size)
    (hc : ∀ i, off ≤ i → i < off + n → w.cell? ⟨b, i, none⟩ = some (.int .u8 (M i))) :
    Calls Tryd.prog 13 #[.slice (some ⟨b, off, none⟩) n cap, .int .u32 0] w fun e w' => e = .returned (.int .u32 (sumOf (fun i => M (off + i)) n)) ∧ Below w.heap.size w w' := by
  have h16 : (16 : Int) ≤ (n : Int) := by omega
  have HC := Lib.hid hc
  have HB := Lib.hid hb
  clear hc hb
  go_enter Tryd.func13, Tryd.ntmps13
  go_wp2
  simp only [Int.reduceMod, Int.reduceNeg]
  go_loopw [0, 8] (fun s0 _ wr => ∃ k a' x1 x2 x3 x4, 16 * k ≤ n ∧ s0 = .slice a' (n - 16 * k) (cap - 16 * k) ∧ Hid (16 * k < n → a' = some ⟨b, off + 16 * k, none⟩) ∧ Lanes (fun i => M (off + i)) k x1 x2 x3 x4 ∧
      ∃ m, wr = (w.alloc (.cells #[.int .u32 x1, .int .u32 x2, .int .u32 x3, .int .u32 x4] 22)).drewN m)
    (fun s0 _ _ => match s0 with | .slice _ l _ => l | _ => 0)
  case atStart => exact ⟨0, _, _, _, _, _, by omega, rfl, fun _ => rfl, Lanes.zero _, 0, rfl⟩
  case round =>
    obtain ⟨k, a', x1, x2, x3, x4, hk, rfl, HA, hL, m, rfl⟩ := hrel
    by_cases hlt : 16 * k + 16 ≤ n
    · obtain rfl := HA.out (by omega)
      clear HA
      have hlen : ¬ (n : Int) - 16 * (k : Int) < 16 := by omega
      go_wp2
      have hd0 : decide (16 ≤ ((n - 16 * k : Nat) : Int)) = true := by simp; omega
      go_loopw [8, 31] (fun _ s31 wr => ∃ (j : Nat) (y1 y2 y3 y4 : Int), j ≤ 4 ∧ s31 = .int .i64 (j : Int) ∧ Inner M (off + 16 * k) x1 x2 x3 x4 j y1 y2 y3 y4 ∧
          ∃ m, wr = (w.alloc (.cells #[.int .u32 y1, .int .u32 y2, .int .u32 y3, .int .u32 y4] 22)).drewN m)
        (fun _ s31 _ => 4 - (intOf s31).toNat)
      case atStart => exact ⟨0, x1, x2, x3, x4, by omega, rfl, ⟨rfl, rfl, rfl, rfl⟩, m, rfl⟩
      case round =>
        obtain ⟨j, y1, y2, y3, y4, hj, rfl, hI, m, rfl⟩ := hrel
        have HI := Lib.hid hI
        clear hI
        have HC4 : Hid (∀ (i : Nat) (m : Nat), off ≤ i → i < off + n → ((w.alloc (.cells #[.int .u32 y1, .int .u32 y2, .int .u32 y3, .int .u32 y4] 22)).drewN m).cell? ⟨b, i, none⟩ = some (.int .u8 (M i))) := by
          intro i m h1 h2
          rw [World.cell?_drewN, World.cell?_alloc_lt _ _ _ hbl]
          exact HC.out i h1 h2
        have hc : j = 0 ∨ j = 1 ∨ j = 2 ∨ j = 3 ∨ j = 4 := by omega
        rcases hc with rfl | rfl | rfl | rfl | rfl
        · have hq : ((0 : Nat) : Int) < 4 := by omega
          go_wp2
          go_region_with (first
             | (go_at_call 18; refine Calls.mono (four_mem M _ off (off + n) _ 0 _ _ _ (by omega) (by omega) (fun i h1 h2 => HC4.out i _ h1 h2) HB.out (by omega) (by omega)) ?_; rintro e w' ⟨rfl, m', rfl⟩)
             | (go_at_call 17; refine Calls.mono (turn_rnd _ _ _) ?_; rintro e w' ⟨rfl, m', rfl⟩))
          all_goals
            go_wp2
            go_roundw
            case rel => exact ⟨1, _, _, _, _, by omega, by go_num, HI.out.step0, _, by rw [setCell_new]; rfl⟩
            case measure => decide
        · have hq : ((1 : Nat) : Int) < 4 := by omega
          go_wp2
          go_region_with (first
             | (go_at_call 18; refine Calls.mono (four_mem M _ off (off + n) _ 4 _ _ _ (by omega) (by omega) (fun i h1 h2 => HC4.out i _ h1 h2) HB.out (by omega) (by omega)) ?_; rintro e w' ⟨rfl, m', rfl⟩)
             | (go_at_call 17; refine Calls.mono (turn_rnd _ _ _) ?_; rintro e w' ⟨rfl, m', rfl⟩))
          all_goals
            go_wp2
            go_roundw
            case rel => exact ⟨2, _, _, _, _, by omega, by go_num, HI.out.step1, _, by rw [setCell_new]; rfl⟩
            case measure => decide
        · have hq : ((2 : Nat) : Int) < 4 := by omega
          go_wp2
          go_region_with (first
             | (go_at_call 18; refine Calls.mono (four_mem M _ off (off + n) _ 8 _ _ _ (by omega) (by omega) (fun i h1 h2 => HC4.out i _ h1 h2) HB.out (by omega) (by omega)) ?_; rintro e w' ⟨rfl, m', rfl⟩)
             | (go_at_call 17; refine Calls.mono (turn_rnd _ _ _) ?_; rintro e w' ⟨rfl, m', rfl⟩))
          all_goals
            go_wp2
            go_roundw
            case rel => exact ⟨3, _, _, _, _, by omega, by go_num, HI.out.step2, _, by rw [setCell_new]; rfl⟩
            case measure => decide
        · have hq : ((3 : Nat) : Int) < 4 := by omega
          go_wp2
          go_region_with (first
             | (go_at_call 18; refine Calls.mono (four_mem M _ off (off + n) _ 12 _ _ _ (by omega) (by omega) (fun i h1 h2 => HC4.out i _ h1 h2) HB.out (by omega) (by omega)) ?_; rintro e w' ⟨rfl, m', rfl⟩)
             | (go_at_call 17; refine Calls.mono (turn_rnd _ _ _) ?_; rintro e w' ⟨rfl, m', rfl⟩))
          all_goals
            go_wp2
            go_roundw
            case rel => exact ⟨4, _, _, _, _, by omega, by go_num, HI.out.step3, _, by rw [setCell_new]; rfl⟩
            case measure => decide
        · go_wp2
          all_goals
            go_roundw
            case rel => exact ⟨k + 1, _, y1, y2, y3, y4, by omega, by congr 1 <;> omega, by intro h; rw [if_neg (by omega)]; simp [Nat.mul_add, Nat.add_assoc], HI.out.done hL, _, rfl⟩
            case measure => show n - 16 * k - 16 < n - 16 * k; omega
    · have hL2 := hL.2
      have HL := Lib.hid hL
      clear hL
      have hd1 : decide (16 ≤ ((n - 16 * k : Nat) : Int)) = false := by simp; omega
      go_wp2
      have c0 := new_cell w #[.int .u32 x1, .int .u32 x2, .int .u32 x3, .int .u32 x4] 22 m 0 _ rfl
      have c1 := new_cell w #[.int .u32 x1, .int .u32 x2, .int .u32 x3, .int .u32 x4] 22 m 1 _ rfl
      have c2 := new_cell w #[.int .u32 x1, .int .u32 x2, .int .u32 x3, .int .u32 x4] 22 m 2 _ rfl
      have c3 := new_cell w #[.int .u32 x1, .int .u32 x2, .int .u32 x3, .int .u32 x4] 22 m 3 _ rfl
      have HCW : Hid (∀ (i : Nat), off ≤ i → i < off + n → ((w.alloc (.cells #[.int .u32 x1, .int .u32 x2, .int .u32 x3, .int .u32 x4] 22)).drewN m).cell? ⟨b, i, none⟩ = some (.int .u8 (M i))) := by
        intro i h1 h2
        rw [World.cell?_drewN, World.cell?_alloc_lt _ _ _ hbl]
        exact HC.out i h1 h2
      have HBL : Hid (Below w.heap.size w ((w.alloc (.cells #[.int .u32 x1, .int .u32 x2, .int .u32 x3, .int .u32 x4] 22)).drewN m)) := ((Below.refl _ _).alloc (Nat.le_refl _) _).trans ⟨rfl, rfl, rfl, Nat.le_refl _, fun _ _ => rfl⟩
      generalize (w.alloc (.cells #[.int .u32 x1, .int .u32 x2, .int .u32 x3, .int .u32 x4] 22)).drewN m = W at c0 c1 c2 c3 HCW HBL ⊢
      go_quiet ((go_at_call 17; first
        | with_reducible exact Calls.quiet_of (turn1_any x1 hL2.1.1 hL2.1.2 _)
        | with_reducible exact Calls.quiet_of (turn7_any x2 hL2.2.1.1 hL2.2.1.2 _)
        | with_reducible exact Calls.quiet_of (turn12_any x3 hL2.2.2.1.1 hL2.2.2.1.2 _)
        | with_reducible exact Calls.quiet_of (turn18_any x4 hL2.2.2.2.1 hL2.2.2.2.2 _)))
      clear c0 c1 c2 c3
      go_wp2
      simp only [Int.emod_add_emod]
      go_loopw [0, 6] (fun s0 h wr => ∃ (j : Nat) (a2 : Option Addr) (hh : Int), 16 * k + 4 * j ≤ n ∧ s0 = .slice a2 (n - 16 * k - 4 * j) (cap - 16 * k - 4 * j) ∧ Hid (16 * k + 4 * j < n → a2 = some ⟨b, off + 16 * k + 4 * j, none⟩) ∧ h = .int .u32 hh ∧
          Hid (hh = tail4 (fun i => M (off + (16 * k + i))) (folded n x1 x2 x3 x4) j) ∧ 0 ≤ hh ∧ hh ≤ 4294967295 ∧ ∃ m, wr = W.drewN m)
        (fun s0 _ _ => match s0 with | .slice _ l _ => l | _ => 0)
      case atStart => exact ⟨0, _, _, by omega, rfl, HA, rfl, by unfold folded Hid tail4; omega, by omega, by omega, _, rfl⟩
      case round =>
        obtain ⟨j, a2, hh, hj, rfl, HA2, rfl, HT, hh0, hh1, m, rfl⟩ := hrel
        by_cases hjt : 16 * k + 4 * j + 4 ≤ n
        · obtain rfl := HA2.out (by omega)
          have hlen2 : 4 ≤ n - 16 * k - 4 * j := by omega
          go_wp2_with (first
            | (go_at_call 18; refine Calls.mono (four_mem M _ off (off + n) _ 0 _ _ _ (by omega) (by omega) HCW.out HB.out (by omega) (by omega)) ?_; rintro e w' ⟨rfl, m', rfl⟩)
            | (go_at_call 17; refine Calls.mono (turn17_any _ (by omega) (by omega) _) ?_; rintro e w' ⟨rfl, m', rfl⟩))
          all_goals
            go_roundw
            case rel => exact ⟨j + 1, _, _, by omega, by congr 1 <;> omega, by intro h; rw [if_neg (by omega)]; simp [Nat.mul_add, Nat.add_assoc], rfl, tail4_step HT.out, by omega, by omega, _, rfl⟩
            case measure => show n - 16 * k - 4 * j - 4 < n - 16 * k - 4 * j; omega
        · have hd2 : decide (4 ≤ ((n - 16 * k - 4 * j : Nat) : Int)) = false := by simp; omega
          go_wp2
          go_loopw [6, 10, 89] (fun h _ p wr => ∃ (i : Nat) (hh : Int), 16 * k + 4 * j + i ≤ n ∧ p = .int .i64 (i : Int) ∧ h = .int .u32 hh ∧ Hid (∃ h0, h0 = tail4 (fun i => M (off + (16 * k + i))) (folded n x1 x2 x3 x4) j ∧ hh = tail1 (fun i => M (off + (16 * k + 4 * j + i))) h0 i) ∧ 0 ≤ hh ∧ hh ≤ 4294967295 ∧ ∃ m, wr = W.drewN m)
            (fun _ _ p _ => n - (intOf p).toNat)
          case atStart => exact ⟨0, hh, by omega, by go_num, rfl, ⟨_, HT.out, rfl⟩, by omega, by omega, m, rfl⟩
          case round =>
            clear HT hh0 hh1
            obtain ⟨i, hh, hi, rfl, rfl, HT, hh0, hh1, m, rfl⟩ := hrel
            by_cases hit : 16 * k + 4 * j + i < n
            · obtain rfl := HA2.out (by omega)
              have hcx : W.cell? ⟨b, off + 16 * k + 4 * j + i, none⟩ = some (.int .u8 (M (off + 16 * k + 4 * j + i))) := HCW.out _ (by omega) (by omega)
              have hbx := HB.out (off + 16 * k + 4 * j + i)
              have hil : (i : Int) < ((n - 16 * k - 4 * j : Nat) : Int) := by omega
              go_wp2_with (first
                | (go_at_call 17; refine Calls.mono (turn11_any _ (by omega) (by omega) _) ?_; rintro e w' ⟨rfl, m', rfl⟩))
              go_roundw
              case rel =>
                obtain ⟨h0, ht4, ht1⟩ := HT.out
                exact ⟨i + 1, _, by omega, by go_num, rfl, ⟨h0, ht4, tail1_stepS ht1⟩, by omega, by omega, _, rfl⟩
              case measure => simp [intOf]; omega
            · have hie : 16 * k + 4 * j + i = n := by omega
              have hd3 : decide ((i : Int) < ((n - 16 * k - 4 * j : Nat) : Int)) = false := by simp; omega
              go_wp2
              go_ret
              obtain ⟨h0, ht4, ht1⟩ := HT.out
              refine ⟨ret_u32 ?_, HBL.out.trans ⟨rfl, rfl, rfl, Nat.le_refl _, fun _ _ => rfl⟩⟩
              rw [sumOf_big hn hk (by omega) (by omega) (by omega) hie HL.out, ← ht4, ← ht1]
              rfl
set_option maxHeartbeats 1000000 in
theorem ssum_small (b off n cap : Nat) (M : Nat → Int) (hb : ∀ i, 0 ≤ M i ∧ M i ≤ 255) (hn : n < 16) (hcap : n ≤ cap) (hcm : cap ≤ 9223372036854775807) (W : World)
    (hc : ∀ i, off ≤ i → i < off + n → W.cell? ⟨b, i, none⟩ = some (.int .u8 (M i))) :
    Calls Tryd.prog 13 #[.slice (some ⟨b, off, none⟩) n cap, .int .u32 0] W fun e w' => e = .returned (.int .u32 (sumOf (fun i => M (off + i)) n)) ∧ Below W.heap.size W w' := by
  have h16 : ¬ (16 : Int) ≤ (n : Int) := by omega
  have HCW := Lib.hid hc
  have HB := Lib.hid hb
  have HBL := Lib.hid (Below.refl W.heap.size W)
  clear hc hb
  go_enter Tryd.func13, Tryd.ntmps13
  go_wp2
  go_loopw [0, 6] (fun s0 h wr => ∃ (j : Nat) (a2 : Option Addr) (hh : Int), 4 * j ≤ n ∧ s0 = .slice a2 (n - 4 * j) (cap - 4 * j) ∧ Hid (4 * j < n → a2 = some ⟨b, off + 4 * j, none⟩) ∧ h = .int .u32 hh ∧
      Hid (hh = tail4 (fun i => M (off + i)) (((n : Int) + 374761393) % 4294967296) j) ∧ 0 ≤ hh ∧ hh ≤ 4294967295 ∧ ∃ m, wr = W.drewN m)
    (fun s0 _ _ => match s0 with | .slice _ l _ => l | _ => 0)
  case atStart => exact ⟨0, _, _, by omega, rfl, fun _ => rfl, rfl, by unfold Hid tail4; omega, by omega, by omega, 0, rfl⟩
  case round =>
    obtain ⟨j, a2, hh, hj, rfl, HA2, rfl, HT, hh0, hh1, m, rfl⟩ := hrel
    by_cases hjt : 4 * j + 4 ≤ n
    · obtain rfl := HA2.out (by omega)
      have hlen2 : 4 ≤ n - 4 * j := by omega
      go_wp2_with (first
        | (go_at_call 18; refine Calls.mono (four_mem M _ off (off + n) _ 0 _ _ _ (by omega) (by omega) HCW.out HB.out (by omega) (by omega)) ?_; rintro e w' ⟨rfl, m', rfl⟩)
        | (go_at_call 17; refine Calls.mono (turn17_any _ (by omega) (by omega) _) ?_; rintro e w' ⟨rfl, m', rfl⟩))
      all_goals
        go_roundw
        case rel => exact ⟨j + 1, _, _, by omega, by congr 1 <;> omega, by intro h; rw [if_neg (by omega)]; simp [Nat.mul_add, Nat.add_assoc], rfl, tail4_step0 HT.out, by omega, by omega, _, rfl⟩
        case measure => show n - 4 * j - 4 < n - 4 * j; omega
    · have hd2 : decide (4 ≤ ((n - 4 * j : Nat) : Int)) = false := by simp; omega
      go_wp2
      go_loopw [6, 10, 89] (fun h _ p wr => ∃ (i : Nat) (hh : Int), 4 * j + i ≤ n ∧ p = .int .i64 (i : Int) ∧ h = .int .u32 hh ∧ Hid (∃ h0, h0 = tail4 (fun i => M (off + i)) (((n : Int) + 374761393) % 4294967296) j ∧ hh = tail1 (fun i => M (off + (4 * j + i))) h0 i) ∧ 0 ≤ hh ∧ hh ≤ 4294967295 ∧ ∃ m, wr = W.drewN m)
        (fun _ _ p _ => n - (intOf p).toNat)
      case atStart => exact ⟨0, hh, by omega, by go_num, rfl, ⟨_, HT.out, rfl⟩, by omega, by omega, m, rfl⟩
      case round =>
        clear HT hh0 hh1
        obtain ⟨i, hh, hi, rfl, rfl, HT, hh0, hh1, m, rfl⟩ := hrel
        by_cases hit : 4 * j + i < n
        · obtain rfl := HA2.out (by omega)
          have hcx : W.cell? ⟨b, off + 4 * j + i, none⟩ = some (.int .u8 (M (off + 4 * j + i))) := HCW.out _ (by omega) (by omega)
          have hbx := HB.out (off + 4 * j + i)
          have hil : (i : Int) < ((n - 4 * j : Nat) : Int) := by omega
          go_wp2_with (first
            | (go_at_call 17; refine Calls.mono (turn11_any _ (by omega) (by omega) _) ?_; rintro e w' ⟨rfl, m', rfl⟩))
          go_roundw
          case rel =>
            obtain ⟨h0, ht4, ht1⟩ := HT.out
            exact ⟨i + 1, _, by omega, by go_num, rfl, ⟨h0, ht4, tail1_step0S ht1⟩, by omega, by omega, _, rfl⟩
          case measure => simp [intOf]; omega
        · have hie : 4 * j + i = n := by omega
          have hd3 : decide ((i : Int) < ((n - 4 * j : Nat) : Int)) = false := by simp; omega
          go_wp2
          go_ret
          obtain ⟨h0, ht4, ht1⟩ := HT.out
          refine ⟨ret_u32 ?_, HBL.out.trans ⟨rfl, rfl, rfl, Nat.le_refl _, fun _ _ => rfl⟩⟩
          rw [sumOf_small hn (by omega) (by omega) hie, ← ht4, ← ht1]
          rfl
end Go.Proofs.YtbadknelbdkpmaaDoor
