/-
  The contract of spec.Sum at the seed 0, for every row of up to 65536 bytes (nil too).
-/
import Derived.Test.YtbadknelbdkpmaaDoorSpec
namespace Go.Proofs.YtbadknelbdkpmaaDoor
open Go.RowKit
set_option linter.unusedVariables false
set_option maxHeartbeats 1000000 in
theorem ssum_zero (a : Option Addr) (cap : Nat) (D : Nat → Int) (hcm : cap ≤ 9223372036854775807) (W : World) :
    Calls Tryd.prog 13 #[.slice a 0 cap, .int .u32 0] W fun e w' => e = .returned (.int .u32 (sumOf D 0)) ∧ Below W.heap.size W w' := by
  go_enter Tryd.func13, Tryd.ntmps13
  go_wp2
  go_loopw [0, 6] (fun s0 h wr => ∃ hh, s0 = .slice a 0 cap ∧ h = .int .u32 hh ∧ Hid (hh = 374761393) ∧ 0 ≤ hh ∧ hh ≤ 4294967295 ∧ ∃ m, wr = W.drewN m)
    (fun _ _ _ => 0)
  case atStart => exact ⟨_, rfl, rfl, rfl, by omega, by omega, 0, rfl⟩
  case round =>
    obtain ⟨hh, rfl, rfl, HT, hh0, hh1, m, rfl⟩ := hrel
    go_wp2
    go_loopw [6, 10, 89] (fun h _ p wr => p = .int .i64 0 ∧ h = .int .u32 hh ∧ ∃ m, wr = W.drewN m)
      (fun _ _ _ _ => 0)
    case atStart => exact ⟨rfl, rfl, m, rfl⟩
    case round =>
      obtain ⟨rfl, rfl, m, rfl⟩ := hrel
      go_wp2
      go_ret
      refine ⟨ret_u32 ?_, ⟨rfl, rfl, rfl, Nat.le_refl _, fun _ _ => rfl⟩⟩
      rw [sumOf_small (j := 0) (i := 0) (by omega) (by omega) (by omega) (by omega)]
      unfold tail1 tail4
      rw [show (((0 : Nat) : Int) + 374761393) % 4294967296 = hh from HT.out.symm]
      rfl
theorem ssum_any (a : Option Addr) (n cap : Nat) (D : Nat → Int) (hb : ∀ i, 0 ≤ D i ∧ D i ≤ 255) (hm : n ≤ 65536) (w : World) (hM : Mem w .u8 a n cap D) :
    Calls Tryd.prog 13 #[.slice a n cap, .int .u32 0] w fun e w' => e = .returned (.int .u32 (sumOf D n)) ∧ Below w.heap.size w w' := by
  obtain ⟨hcap, hcm, hc⟩ := hM
  by_cases h0 : n = 0
  · subst h0
    exact ssum_zero a cap D hcm w
  · rcases hc with rfl | ⟨b, off, rfl, hc⟩
    · omega
    · have e : D = fun i => (fun j => D (j - off)) (off + i) := by funext i; simp
      have hc' : ∀ i, off ≤ i → i < off + n → w.cell? ⟨b, i, none⟩ = some (.int .u8 ((fun j => D (j - off)) i)) := by
        intro i h1 h2
        have := hc (i - off) (by omega)
        rwa [show off + (i - off) = i by omega] at this
      have hbl : b < w.heap.size := World.block_lt_of_cell? w _ (hc 0 (by omega))
      rw [e]
      by_cases h : n < 16
      · exact ssum_small b off n cap (fun j => D (j - off)) (fun i => hb _) h hcap hcm w hc'
      · exact ssum_big b off n cap (fun j => D (j - off)) (fun i => hb _) (by omega) hm hcap hcm w hbl hc'
end Go.Proofs.YtbadknelbdkpmaaDoor
