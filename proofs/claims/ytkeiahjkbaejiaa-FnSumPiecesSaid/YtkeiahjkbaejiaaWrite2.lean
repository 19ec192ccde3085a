/-
  The contract of Write, where whole blocks are taken in.
-/
import Derived.Test.YtkeiahjkbaejiaaWrite
namespace Go.Proofs.Ytkeiahjkbaejiaa
open Go.RowKit
set_option linter.unusedVariables false
theorem lane_add (D : Nat → Int) (j : Nat) (s : Int) (a : Nat) : ∀ b, lane D j s (a + b) = lane (fun i => D (16 * a + i)) j (lane D j s a) b
  | 0 => rfl
  | b + 1 => by
    show rnd (lane D j s (a + b)) _ = rnd _ _
    rw [lane_add D j s a b]
    congr 1
    show leD D (16 * (a + b) + 4 * j) = leD (fun i => D (16 * a + i)) (16 * b + 4 * j)
    unfold leD
    simp only [Nat.mul_add, Nat.add_assoc]
theorem full_law {w : World} {g t n : Nat} {D B : Nat → Int} {x1 x2 x3 x4 y1 y2 y3 y4 : Int} (ht : t % 16 = 0) (hD : ∀ i, 0 ≤ D i ∧ D i ≤ 255) (hB : ∀ i, 0 ≤ B i ∧ B i ≤ 255) (hL : Lanes D (t / 16) x1 x2 x3 x4)
    (hA : LanesAt (fun i => D (t + i)) (n / 16) x1 x2 x3 x4 y1 y2 y3 y4) (h : St w g y1 y2 y3 y4 ((t : Int) + (n : Int)) (bufPut B 0 (n % 16) (fun j => D (t + (16 * (n / 16) + j)))) ((n % 16 : Nat) : Int)) : RunL w g D (t + n) := by
  have e1 : (t + n) % 16 = n % 16 := by omega
  have e2 : (t + n) / 16 = t / 16 + n / 16 := by omega
  have e3 : 16 * (t / 16) = t := by omega
  refine ⟨y1, y2, y3, y4, bufPut B 0 (n % 16) (fun j => D (t + (16 * (n / 16) + j))), ?_, bufPut_bd hB (fun i => hD _), ?_, ?_⟩
  · rw [e1]
    simpa using h
  · obtain ⟨⟨rfl, rfl, rfl, rfl⟩, hb⟩ := hA
    obtain ⟨⟨rfl, rfl, rfl, rfl⟩, _⟩ := hL
    refine ⟨?_, hb⟩
    rw [e2]
    simp only [lane_add, e3]
    exact ⟨trivial, trivial, trivial, trivial⟩
  · intro i hi
    unfold bufPut
    rw [if_pos (by omega)]
    show D (t + (16 * (n / 16) + (i - 0))) = _
    congr 1; omega
theorem buf_lanes {D B : Nat → Int} {t : Nat} {x1 x2 x3 x4 : Int} (hL : Lanes D (t / 16) x1 x2 x3 x4) (hB : ∀ i, i < 16 → B i = D (16 * (t / 16) + i)) :
    Lanes D (t / 16 + 1) (rnd x1 (leD B 0)) (rnd x2 (leD B 4)) (rnd x3 (leD B 8)) (rnd x4 (leD B 12)) := by
  have e : ∀ k, k + 4 ≤ 16 → leD B k = leD D (16 * (t / 16) + k) := by
    intro k hk
    unfold leD
    rw [hB k (by omega), hB (k + 1) (by omega), hB (k + 2) (by omega), hB (k + 3) (by omega)]
    rfl
  rw [e 0 (by omega), e 4 (by omega), e 8 (by omega), e 12 (by omega)]
  exact hL.step
/-- what the walk of the last copy wants to know -/
theorem last_facts {w : World} {g : Nat} {x1 x2 x3 x4 t u : Int} {B E : Nat → Int} (h : St w g x1 x2 x3 x4 t B u) {a0 : Option Addr} {n cap : Nat} (hM : Mem w .u8 a0 n cap E) (hne : ∀ x, a0 = some x → x.block ≠ g) (hk : n < 16) :
    ∃ w1, (Builtin.copy_ #[25, 25] 3 #[.slice (some ⟨g, 5, none⟩) 16 16, .slice a0 n cap]).run Try.prog w.drew = .ok (.int .i64 (n : Int)) w1 ∧
      w1.cell? ⟨g, 21, none⟩ = some (.int .i64 u) ∧ w1.frozen? ⟨g, 21, none⟩ = false ∧ Hid (St w1 g x1 x2 x3 x4 t (bufPut B 0 n E) u ∧ w.grownBy w1 (some g)) := by
  obtain ⟨w1, h1, h2, h3⟩ := run_put (k := 0) (m := n) (h.drewN 1) (show Mem (w.drewN 1) .u8 a0 n cap E from hM) hne (by omega) (by omega)
  exact ⟨w1, h1, h2.c21, Rowf.free h2 21, h2, grown_trans (grown_drewN (World.grownBy.refl w _) 1) h3⟩
theorem update_nil_mem {w : World} {g : Nat} {s1 s2 s3 s4 t : Int} {B : Nat → Int} {u : Int} (h : St w g s1 s2 s3 s4 t B u)
    (b1 : 0 ≤ s1 ∧ s1 ≤ 4294967295) (b2 : 0 ≤ s2 ∧ s2 ≤ 4294967295) (b3 : 0 ≤ s3 ∧ s3 ≤ 4294967295) (b4 : 0 ≤ s4 ∧ s4 ≤ 4294967295)
    (a0 : Option Addr) (n cap : Nat) (E : Nat → Int) (hE : ∀ i, 0 ≤ E i ∧ E i ≤ 255) (hm : n ≤ 65536) (hM : Mem w .u8 a0 n cap E) :
    Calls Try.prog 31 #[.pointer (some ⟨g, 0, none⟩), .pointer none, .slice a0 n cap] w (Updated w g E (n / 16) s1 s2 s3 s4 t B u) := by
  obtain ⟨h1, h2, h3⟩ := hM
  rcases h3 with rfl | ⟨b, off, rfl, hc⟩
  · exact update_nil h b1 b2 b3 b4 a0 0 0 0 cap (by omega) E hE hm h1 h2 (by intro i _ hi; omega) |>.mono fun e w' hh => by simpa using hh
  · have e : E = fun i => (fun j => E (j - off)) (off + i) := by funext i; simp
    have := update_nil h b1 b2 b3 b4 (some ⟨b, off, none⟩) b off n cap (fun _ => rfl) (fun j => E (j - off)) (fun i => hE _) hm h1 h2 (by
      intro i hi1 hi2
      have := hc (i - off) (by omega)
      rwa [show off + (i - off) = i by omega] at this)
    rwa [← e] at this
theorem update_buf_mem {w : World} {g : Nat} {s1 s2 s3 s4 t : Int} {B : Nat → Int} {u : Int} (h : St w g s1 s2 s3 s4 t B u) (hB : ∀ i, 0 ≤ B i ∧ B i ≤ 255)
    (a0 : Option Addr) (n cap : Nat) (E : Nat → Int) (hE : ∀ i, 0 ≤ E i ∧ E i ≤ 255) (hm : n ≤ 65536) (hM : Mem w .u8 a0 n cap E) :
    Calls Try.prog 31 #[.pointer (some ⟨g, 0, none⟩), .pointer (some ⟨g, 5, none⟩), .slice a0 n cap] w (Updated w g E (n / 16) (rnd s1 (leD B 0)) (rnd s2 (leD B 4)) (rnd s3 (leD B 8)) (rnd s4 (leD B 12)) t B u) := by
  obtain ⟨h1, h2, h3⟩ := hM
  rcases h3 with rfl | ⟨b, off, rfl, hc⟩
  · exact update_buf h hB a0 0 0 0 cap (by omega) E hE hm h1 h2 (by intro i _ hi; omega) |>.mono fun e w' hh => by simpa using hh
  · have e : E = fun i => (fun j => E (j - off)) (off + i) := by funext i; simp
    have := update_buf h hB (some ⟨b, off, none⟩) b off n cap (fun _ => rfl) (fun j => E (j - off)) (fun i => hE _) hm h1 h2 (by
      intro i hi1 hi2
      have := hc (i - off) (by omega)
      rwa [show off + (i - off) = i by omega] at this)
    rwa [← e] at this
theorem update30 {w : World} {p q : Value} {a0 : Option Addr} {n cap : Nat} {g k : Nat} {E B : Nat → Int} {s1 s2 s3 s4 t u : Int} (h : Calls Try.prog 31 #[p, q, .slice a0 n cap] w (Updated w g E k s1 s2 s3 s4 t B u)) :
    Calls Try.prog 30 #[p, q, .slice a0 n cap] w (Updated w g E k s1 s2 s3 s4 t B u) := by
  have HH := Lib.hid h
  clear h
  go_enter Try.func30, Try.ntmps30
  go_wp2_with (go_at_call 31; refine Calls.mono HH.out ?_; rintro e w2 ⟨rfl, hU⟩; (have HU := Lib.hid hU); clear hU)
  go_end0
  exact ⟨rfl, HU.out⟩
theorem mem_tail {w : World} {b off n cap lo : Nat} {E : Nat → Int} (h : Mem w .u8 (some ⟨b, off, none⟩) n cap E) (hlo : lo ≤ n) :
    Mem w .u8 (if cap = lo then some ⟨b, off, none⟩ else some ⟨b, off + lo, none⟩) (n - lo) (cap - lo) (fun j => E (lo + j)) := by
  obtain ⟨h1, h2, h3⟩ := h
  refine ⟨by omega, by omega, ?_⟩
  rcases h3 with h3 | ⟨b', off', e, hc⟩
  · exact .inl (by omega)
  · simp only [Option.some.injEq, Addr.mk.injEq, and_true] at e
    obtain ⟨rfl, rfl⟩ := e
    by_cases hz : n - lo = 0
    · exact .inl hz
    · rw [if_neg (by omega)]
      exact .inr ⟨b, off + lo, rfl, fun i hi => by rw [Nat.add_assoc]; exact hc (lo + i) (by omega)⟩
theorem last_law {w : World} {g t n : Nat} {D B : Nat → Int} {y1 y2 y3 y4 u : Int} (h : St w g y1 y2 y3 y4 ((t : Int) + (n : Int)) (bufPut B 0 (n - (n - n % 16)) fun j => D (t + (n - n % 16 + j))) u) :
    St (w.setCell ⟨g, 21, none⟩ (.int .i64 ((n - (n - n % 16) : Nat) : Int))) g y1 y2 y3 y4 ((t : Int) + (n : Int)) (bufPut B 0 (n % 16) (fun j => D (t + (16 * (n / 16) + j)))) ((n % 16 : Nat) : Int) := by
  have e1 : n - (n - n % 16) = n % 16 := by omega
  have e2 : n - n % 16 = 16 * (n / 16) := by omega
  have h' := h.set21 ((n - (n - n % 16) : Nat) : Int)
  rw [e1] at h' ⊢
  rw [e2] at h'
  exact h'
set_option maxHeartbeats 1000000 in
theorem write_full {w : World} {g : Nat} {D : Nat → Int} {t : Nat} (hR : RunL w g D t) (ht : 0 < t) (hD : ∀ i, 0 ≤ D i ∧ D i ≤ 255) (hu : t % 16 = 0)
    (b off n cap : Nat) (hM : Mem w .u8 (some ⟨b, off, none⟩) n cap (fun i => D (t + i))) (hm : t + n ≤ 65536) (hn : 16 ≤ n)
    (hne : b ≠ g) :
    Calls Try.prog 19 #[.pointer (some ⟨g, 0, none⟩), .slice (some ⟨b, off, none⟩) n cap] w (Written w g D (t + n)) := by
  obtain ⟨x1, x2, x3, x4, B, h, hB, hL, hBD⟩ := hR
  have c4 := h.c4
  have c21 : w.cell? ⟨g, 21, none⟩ = some (.int .i64 0) := by rw [h.c21, hu]; rfl
  have f4 := Rowf.free h 4
  have hcap := hM.1
  have hcm := hM.2.1
  have H := Lib.hid h
  have HM := Lib.hid hM
  have HH := Lib.hid (And.intro hB (And.intro hL hBD))
  clear h hM hL hBD hB
  have HU := Lib.hid hu
  have HD := Lib.hid hD
  clear hu hD
  have hlt : ¬ (n : Int) < 16 := by omega
  have ht0 : ((t : Int) == 0) = false := by simp; omega
  go_enter Try.func19, Try.ntmps19
  go_wp2_with (first
    | (go_at_call 30; refine Calls.mono (update30 (update_nil_mem (H.out.set4 _) HH.out.2.1.2.1 HH.out.2.1.2.2.1 HH.out.2.1.2.2.2.1 HH.out.2.1.2.2.2.2 _ n cap _ (fun i => HD.out (t + i)) (by omega) (src_at HM.out (by rintro x h; cases h; exact hne) (grown_set (World.grownBy.refl _ _) _ _)))) ?_; rintro e w2 ⟨rfl, y1, y2, y3, y4, hA, hS2, hg2⟩; (have HA := Lib.hid hA); (have HS2 := Lib.hid hS2); (have HG2 := Lib.hid hg2); clear hA hS2 hg2))
  have hne' : ∀ x, (if cap = n - n % 16 then some (⟨b, off, none⟩ : Addr) else some ⟨b, off + (n - n % 16), none⟩) = some x → x.block ≠ g := by
    intro x hx
    split at hx <;> (cases hx; exact hne)
  have hM2 := src_at (src_at HM.out (by rintro x h; cases h; exact hne) (grown_set (World.grownBy.refl w (some g)) 4 (.int .u64 ((t : Int) + (n : Int))))) (by rintro x h; cases h; exact hne) HG2.out
  obtain ⟨w3, hcp, c21', f21', HS3⟩ := last_facts HS2.out (mem_tail (lo := n - n % 16) hM2 (by omega)) hne' (by omega)
  clear hM2 hne'
  go_region
  all_goals go_wp2
  all_goals go_ret2
  all_goals
    refine ⟨⟨_, rfl⟩, full_law HU.out HD.out HH.out.1 HH.out.2.1 HA.out ?_, grown_set (grown_trans (grown_trans (grown_set (World.grownBy.refl _ _) _ _) HG2.out) HS3.out.2) _ _⟩
    exact last_law HS3.out.1
set_option maxHeartbeats 1000000 in
theorem write_full0 {w : World} {g : Nat} {D : Nat → Int} {s1 s2 s3 s4 : Int} {B : Nat → Int} (hS : St w g s1 s2 s3 s4 0 B 0) (hB : ∀ i, 0 ≤ B i ∧ B i ≤ 255) (hD : ∀ i, 0 ≤ D i ∧ D i ≤ 255)
    (b off n cap : Nat) (hM : Mem w .u8 (some ⟨b, off, none⟩) n cap D) (hm : n ≤ 65536) (hn : 16 ≤ n) (hne : b ≠ g) :
    Calls Try.prog 19 #[.pointer (some ⟨g, 0, none⟩), .slice (some ⟨b, off, none⟩) n cap] w (Written w g D n) := by
  have c4 := hS.c4
  have hcap := hM.1
  have hcm := hM.2.1
  have HS := Lib.hid hS
  have HM := Lib.hid hM
  have HB := Lib.hid hB
  have HD := Lib.hid hD
  clear hS hM hB hD
  have hlt : ¬ (n : Int) < 16 := by omega
  go_enter Try.func19, Try.ntmps19
  go_wp2_with (first
    | (go_at_call 29; refine Calls.mono (reset_any HS.out) ?_; rintro e w1 ⟨rfl, hS1, hg1⟩; (have c4' := hS1.c4); (have c21' := hS1.c21); (have f4' := Rowf.free hS1 4); (have HS1 := Lib.hid hS1); (have HG1 := Lib.hid hg1); clear hS1 hg1)
    | (go_at_call 30; refine Calls.mono (update30 (update_nil_mem (HS1.out.set4 _) (by omega) (by omega) (by omega) (by omega) _ n cap _ HD.out (by omega) (src_at HM.out (by rintro x h; cases h; exact hne) (grown_set HG1.out _ _)))) ?_; rintro e w2 ⟨rfl, y1, y2, y3, y4, hA, hS2, hg2⟩; (have HA := Lib.hid hA); (have HS2 := Lib.hid hS2); (have HG2 := Lib.hid hg2); clear hA hS2 hg2))
  have hne' : ∀ x, (if cap = n - n % 16 then some (⟨b, off, none⟩ : Addr) else some ⟨b, off + (n - n % 16), none⟩) = some x → x.block ≠ g := by
    intro x hx
    split at hx <;> (cases hx; exact hne)
  have hM2 := src_at (src_at HM.out (by rintro x h; cases h; exact hne) (grown_set HG1.out 4 (.int .u64 (n : Int)))) (by rintro x h; cases h; exact hne) HG2.out
  obtain ⟨w3, hcp, c21', f21', HS3⟩ := last_facts HS2.out (mem_tail (lo := n - n % 16) hM2 (by omega)) hne' (by omega)
  clear hM2 hne'
  go_region
  all_goals go_wp2
  all_goals go_ret2
  all_goals
    have hl := last_law (t := 0) (n := n) (D := D) (by simpa using HS3.out.1)
    refine ⟨⟨_, rfl⟩, by simpa using full_law (t := 0) rfl HD.out HB.out (Lanes.zero D) (by simpa using HA.out) hl, grown_set (grown_trans (grown_trans (grown_set HG1.out _ _) HG2.out) HS3.out.2) _ _⟩
end Go.Proofs.Ytkeiahjkbaejiaa
