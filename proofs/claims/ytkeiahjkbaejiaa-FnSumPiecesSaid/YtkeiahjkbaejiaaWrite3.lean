/-
  The contract of Write, where the buffer is filled up first; and for every state and every piece.
-/
import Derived.Test.YtkeiahjkbaejiaaWrite2
namespace Go.Proofs.Ytkeiahjkbaejiaa
open Go.RowKit
set_option linter.unusedVariables false
/-- what the walk wants to know of the first copy -/
theorem fill_facts {w : World} {g : Nat} {x1 x2 x3 x4 : Int} {t m c n1 : Nat} {B E : Nat → Int} (h : St w g x1 x2 x3 x4 (t : Int) B (m : Int)) (hm : 1 ≤ m) (hc1 : m + c ≤ 16) (hc2 : 16 ≤ m + c) {a0 : Option Addr} {cap : Nat} (hM : Mem w .u8 a0 (c + n1) cap E) (hne : ∀ x, a0 = some x → x.block ≠ g) (hm' : m < 16) :
    ∃ w1, (Builtin.copy_ #[25, 25] 3 #[.slice (some ⟨g, 5 + m, none⟩) (16 - m) (16 - m), .slice a0 (c + n1) cap]).run Try.prog (w.setCell ⟨g, 4, none⟩ (.int .u64 ((t : Int) + ((c : Int) + (n1 : Int))))) = .ok (.int .i64 (c : Int)) w1 ∧
      Hid (St w1 g x1 x2 x3 x4 ((t : Int) + ((c : Int) + (n1 : Int))) (bufPut B m c E) (m : Int) ∧ w.grownBy w1 (some g)) := by
  have hg : w.grownBy (w.setCell ⟨g, 4, none⟩ (.int .u64 ((t : Int) + ((c : Int) + (n1 : Int))))) (some g) := grown_set (World.grownBy.refl _ _) _ _
  obtain ⟨w1, h1, h2, h3⟩ := run_put (k := m) (m := c) (h.set4 ((t : Int) + ((c : Int) + (n1 : Int)))) (src_at hM hne hg) hne (by omega) (by omega)
  exact ⟨w1, h1, h2, grown_trans hg h3⟩
theorem mem_off {w : World} {b off n cap c : Nat} {E : Nat → Int} (h : Mem w .u8 (some ⟨b, off, none⟩) (c + n) cap E) : Mem w .u8 (some ⟨b, off + c, none⟩) n (cap - c) (fun j => E (c + j)) := by
  obtain ⟨h1, h2, h3⟩ := h
  refine ⟨by omega, by omega, ?_⟩
  rcases h3 with h3 | ⟨b', off', e, hc⟩
  · exact .inl (by omega)
  · simp only [Option.some.injEq, Addr.mk.injEq, and_true] at e
    obtain ⟨rfl, rfl⟩ := e
    exact .inr ⟨b, off + c, rfl, fun i hi => by rw [Nat.add_assoc]; exact hc (c + i) (by omega)⟩
/-- the buffer, filled up, and the lanes behind it -/
theorem fill_law {D B : Nat → Int} {t m c : Nat} {x1 x2 x3 x4 : Int} (hm : t % 16 = m) (hc : m + c = 16) (hL : Lanes D (t / 16) x1 x2 x3 x4) (hBD : ∀ i, i < m → B i = D (16 * (t / 16) + i)) :
    Lanes D ((t + c) / 16) (rnd x1 (leD (bufPut B m c fun i => D (t + i)) 0)) (rnd x2 (leD (bufPut B m c fun i => D (t + i)) 4)) (rnd x3 (leD (bufPut B m c fun i => D (t + i)) 8)) (rnd x4 (leD (bufPut B m c fun i => D (t + i)) 12)) := by
  have e : (t + c) / 16 = t / 16 + 1 := by omega
  rw [e]
  refine buf_lanes hL fun i hi => ?_
  unfold bufPut
  split
  · show D (t + (i - m)) = _
    congr 1; omega
  · exact hBD i (by omega)
theorem fill_last {w : World} {g t m c n1 : Nat} {D B : Nat → Int} {x1 x2 x3 x4 y1 y2 y3 y4 u : Int} (hm : t % 16 = m) (hc : m + c = 16) (hD : ∀ i, 0 ≤ D i ∧ D i ≤ 255) (hB : ∀ i, 0 ≤ B i ∧ B i ≤ 255) (hL : Lanes D (t / 16) x1 x2 x3 x4)
    (hBD : ∀ i, i < m → B i = D (16 * (t / 16) + i))
    (hA : LanesAt (fun i => D (t + (c + i))) (n1 / 16) (rnd x1 (leD (bufPut B m c fun i => D (t + i)) 0)) (rnd x2 (leD (bufPut B m c fun i => D (t + i)) 4)) (rnd x3 (leD (bufPut B m c fun i => D (t + i)) 8)) (rnd x4 (leD (bufPut B m c fun i => D (t + i)) 12)) y1 y2 y3 y4)
    (h : St w g y1 y2 y3 y4 ((t : Int) + ((c : Int) + (n1 : Int))) (bufPut (bufPut B m c fun i => D (t + i)) 0 (n1 - (n1 - n1 % 16)) fun j => D (t + (c + (n1 - n1 % 16 + j)))) u) :
    RunL (w.setCell ⟨g, 21, none⟩ (.int .i64 ((n1 - (n1 - n1 % 16) : Nat) : Int))) g D (t + (c + n1)) := by
  have e1 : ((t : Int) + ((c : Int) + (n1 : Int))) = ((t + c : Nat) : Int) + (n1 : Int) := by omega
  rw [e1] at h
  simp only [← Nat.add_assoc] at h hA ⊢
  simp only [Nat.add_assoc (t + c)] at h
  exact full_law (by omega) hD (bufPut_bd hB fun i => hD _) (fill_law hm hc hL hBD) hA (last_law h)
set_option maxHeartbeats 1000000 in
theorem write_fill {w : World} {g : Nat} {D : Nat → Int} {t : Nat} (hR : RunL w g D t) (ht : 0 < t) (hD : ∀ i, 0 ≤ D i ∧ D i ≤ 255) (hu : 1 ≤ t % 16)
    (b off c n1 cap : Nat) (hM : Mem w .u8 (some ⟨b, off, none⟩) (c + n1) cap (fun i => D (t + i))) (hm : t + (c + n1) ≤ 65536) (hc : t % 16 + c = 16)
    (hce : ¬ cap = c) (hne : b ≠ g) :
    Calls Try.prog 19 #[.pointer (some ⟨g, 0, none⟩), .slice (some ⟨b, off, none⟩) (c + n1) cap] w (Written w g D (t + (c + n1))) := by
  obtain ⟨x1, x2, x3, x4, B, h, hB, hL, hBD⟩ := hR
  have hu16 : t % 16 < 16 := Nat.mod_lt _ (by omega)
  obtain ⟨w1, hcp, HS1⟩ := fill_facts h hu (by omega) (by omega) hM (by rintro x hx; cases hx; exact hne) hu16
  have c4 := h.c4
  have c21 := h.c21
  have f4 := Rowf.free h 4
  have hcap := hM.1
  have hcm := hM.2.1
  have H := Lib.hid h
  have HM := Lib.hid hM
  have HH := Lib.hid (And.intro hB (And.intro hL hBD))
  clear h hM hL hBD hB
  have hsl := run_bufFrom g (t % 16) hu16
  have HC := Lib.hid hc
  have HD := Lib.hid hD
  have hc1 : t % 16 + c ≤ 16 := by omega
  have hc2 : 16 ≤ t % 16 + c := by omega
  clear hc hD
  generalize hmm : t % 16 = m at *
  have HMM := Lib.hid hmm
  clear hmm
  have hlt : ¬ ((c : Int) + (n1 : Int)) < 16 - (m : Int) := by omega
  have ht0 : ((t : Int) == 0) = false := by simp; omega
  have hm0 : ((m : Int) == 0) = false := by simp; omega
  have hm1 : (!((m : Int) == 0)) = true := by simp; omega
  · go_enter Try.func19, Try.ntmps19
    go_wp2_with (go_at_call 30; refine Calls.mono (update30 (update_buf_mem HS1.out.1 (bufPut_bd HH.out.1 fun i => HD.out (t + i)) _ n1 (cap - c) _ (fun i => HD.out (t + (c + i))) (by omega) (src_at (mem_off HM.out) (by rintro x h; cases h; exact hne) HS1.out.2))) ?_; rintro e w2 ⟨rfl, y1, y2, y3, y4, hA, hS2, hg2⟩; (have HA := Lib.hid hA); (have HS2 := Lib.hid hS2); (have HG2 := Lib.hid hg2); clear hA hS2 hg2)
    simp only [show (c : Int) + (n1 : Int) - (c : Int) = (n1 : Int) by omega]
    have hne' : ∀ x, (if cap - c = n1 - n1 % 16 then some (⟨b, off + c, none⟩ : Addr) else some ⟨b, off + c + (n1 - n1 % 16), none⟩) = some x → x.block ≠ g := by
      intro x hx
      split at hx <;> (cases hx; exact hne)
    have hM2 := src_at (src_at (mem_off HM.out) (by rintro x h; cases h; exact hne) HS1.out.2) (by rintro x h; cases h; exact hne) HG2.out
    obtain ⟨w3, hcp3, c21', f21', HS3⟩ := last_facts HS2.out (mem_tail (lo := n1 - n1 % 16) hM2 (by omega)) hne' (by omega)
    clear hM2 hne'
    go_region
    all_goals go_wp2
    all_goals go_ret2
    all_goals
      refine ⟨⟨_, rfl⟩, ?_, grown_set (grown_trans (grown_trans HS1.out.2 HG2.out) HS3.out.2) _ _⟩
      have hmm := HMM.out
      exact fill_last hmm HC.out HD.out HH.out.1 HH.out.2.1 HH.out.2.2 HA.out HS3.out.1
set_option maxHeartbeats 1000000 in
theorem write_fillx {w : World} {g : Nat} {D : Nat → Int} {t : Nat} (hR : RunL w g D t) (ht : 0 < t) (hD : ∀ i, 0 ≤ D i ∧ D i ≤ 255) (hu : 1 ≤ t % 16)
    (b off c : Nat) (hM : Mem w .u8 (some ⟨b, off, none⟩) c c (fun i => D (t + i))) (hm : t + c ≤ 65536) (hc : t % 16 + c = 16)
    (hne : b ≠ g) :
    Calls Try.prog 19 #[.pointer (some ⟨g, 0, none⟩), .slice (some ⟨b, off, none⟩) c c] w (Written w g D (t + c)) := by
  obtain ⟨x1, x2, x3, x4, B, h, hB, hL, hBD⟩ := hR
  have hu16 : t % 16 < 16 := Nat.mod_lt _ (by omega)
  obtain ⟨w1, hcp, HS1⟩ := fill_facts (n1 := 0) h hu (by omega) (by omega) hM (by rintro x hx; cases hx; exact hne) hu16
  simp only [Nat.add_zero, Int.natCast_zero, Int.add_zero] at hcp HS1
  have c4 := h.c4
  have c21 := h.c21
  have f4 := Rowf.free h 4
  have hcap := hM.1
  have hcm := hM.2.1
  have H := Lib.hid h
  have HM := Lib.hid hM
  have HH := Lib.hid (And.intro hB (And.intro hL hBD))
  clear h hM hL hBD hB
  have hsl := run_bufFrom g (t % 16) hu16
  have HC := Lib.hid hc
  have HD := Lib.hid hD
  have hc1 : t % 16 + c ≤ 16 := by omega
  have hc2 : 16 ≤ t % 16 + c := by omega
  clear hc hD
  generalize hmm : t % 16 = m at *
  have HMM := Lib.hid hmm
  clear hmm
  have hlt : ¬ (c : Int) < 16 - (m : Int) := by omega
  have ht0 : ((t : Int) == 0) = false := by simp; omega
  have hm0 : ((m : Int) == 0) = false := by simp; omega
  go_enter Try.func19, Try.ntmps19
  go_wp2_with (go_at_call 30; refine Calls.mono (update30 (update_buf_mem HS1.out.1 (bufPut_bd HH.out.1 fun i => HD.out (t + i)) _ 0 0 (fun i => D (t + (c + i))) (fun i => HD.out (t + (c + i))) (by omega) ⟨by omega, by omega, .inl rfl⟩)) ?_; rintro e w2 ⟨rfl, y1, y2, y3, y4, hA, hS2, hg2⟩; (have HA := Lib.hid hA); (have HS2 := Lib.hid hS2); (have HG2 := Lib.hid hg2); clear hA hS2 hg2)
  obtain ⟨w3, hcp3, c21', f21', HS3⟩ := last_facts (E := fun j => D (t + (c + (0 + j)))) HS2.out (a0 := some ⟨b, off, none⟩) (n := 0) (cap := 0) ⟨by omega, by omega, .inl rfl⟩ (by rintro x h; cases h; exact hne) (by omega)
  simp only [Int.natCast_zero] at hcp3
  go_region
  all_goals go_wp2
  all_goals go_ret2
  all_goals
    refine ⟨⟨_, rfl⟩, ?_, grown_set (grown_trans (grown_trans HS1.out.2 HG2.out) HS3.out.2) _ _⟩
    have hmm := HMM.out
    have := fill_last (n1 := 0) hmm HC.out HD.out HH.out.1 HH.out.2.1 HH.out.2.2 HA.out (by simpa using HS3.out.1)
    simpa using this
/-- every state, every piece -/
theorem write_any {w : World} {g : Nat} {D : Nat → Int} {t : Nat} (hR : Run w g D t) (hD : ∀ i, 0 ≤ D i ∧ D i ≤ 255) (a0 : Option Addr) (n cap : Nat) (hM : Mem w .u8 a0 n cap (fun i => D (t + i))) (hm : t + n ≤ 65536)
    (hne : ∀ x, a0 = some x → x.block ≠ g) :
    Calls Try.prog 19 #[.pointer (some ⟨g, 0, none⟩), .slice a0 n cap] w (Written w g D (t + n)) := by
  have hsome : 0 < n → ∃ b off, a0 = some ⟨b, off, none⟩ := by
    intro hn
    rcases hM.2.2 with h | ⟨b, off, h, _⟩
    · omega
    · exact ⟨b, off, h⟩
  by_cases ht : t = 0
  · subst ht
    obtain ⟨x1, x2, x3, x4, B, h, hB⟩ : ∃ x1 x2 x3 x4 B, St w g x1 x2 x3 x4 0 B 0 ∧ (∀ i, 0 ≤ B i ∧ B i ≤ 255) := by
      rcases hR with ⟨x1, x2, x3, x4, B, h, hB, _⟩ | ⟨_, h⟩
      · exact ⟨x1, x2, x3, x4, B, h, hB⟩
      · exact h
    simp only [Nat.zero_add] at hM ⊢
    by_cases hn : n < 16
    · exact write_few0 h hB hD a0 n cap hM hn hne
    · obtain ⟨b, off, rfl⟩ := hsome (by omega)
      exact write_full0 h hB hD b off n cap hM (by omega) (by omega) (hne _ rfl)
  · have hL : RunL w g D t := by
      rcases hR with h | ⟨h, _⟩
      · exact h
      · exact absurd h ht
    by_cases hn : n < 16 - t % 16
    · exact write_few hL (by omega) hD a0 n cap hM hm hn hne
    · obtain ⟨b, off, rfl⟩ := hsome (by omega)
      by_cases hu : t % 16 = 0
      · exact write_full hL (by omega) hD hu b off n cap hM hm (by omega) (hne _ rfl)
      · obtain ⟨c, hc⟩ : ∃ c, t % 16 + c = 16 := ⟨16 - t % 16, by omega⟩
        obtain ⟨n1, rfl⟩ : ∃ n1, n = c + n1 := ⟨n - c, by omega⟩
        by_cases hce : cap = c
        · subst hce
          have hn1 : n1 = 0 := by have := hM.1; omega
          subst hn1
          exact write_fillx hL (by omega) hD (by omega) b off cap hM (by omega) hc (hne _ rfl)
        · exact write_fill hL (by omega) hD (by omega) b off c n1 cap hM hm hc hce (hne _ rfl)
end Go.Proofs.Ytkeiahjkbaejiaa
