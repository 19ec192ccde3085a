/-
  The contract of Write: the state of t bytes becomes that of t + n bytes.
-/
import Derived.Test.YtkeiahjkbaejiaaUpdate
import Derived.Deep.RegionLaw
namespace Go.Proofs.Ytkeiahjkbaejiaa
open Go.RowKit
set_option linter.unusedVariables false
/-- the state behind the first t bytes of D, its lanes begun -/
def RunL (w : World) (g : Nat) (D : Nat → Int) (t : Nat) : Prop :=
  ∃ x1 x2 x3 x4 B, St w g x1 x2 x3 x4 (t : Int) B ((t % 16 : Nat) : Int) ∧ (∀ i, 0 ≤ B i ∧ B i ≤ 255) ∧ Lanes D (t / 16) x1 x2 x3 x4 ∧ (∀ i, i < t % 16 → B i = D (16 * (t / 16) + i))
/-- the same, or nothing written yet -/
def Run (w : World) (g : Nat) (D : Nat → Int) (t : Nat) : Prop :=
  RunL w g D t ∨ (t = 0 ∧ ∃ x1 x2 x3 x4 B, St w g x1 x2 x3 x4 0 B 0 ∧ (∀ i, 0 ≤ B i ∧ B i ≤ 255))
def Written (w : World) (g : Nat) (D : Nat → Int) (t : Nat) (e : Ending) (w' : World) : Prop :=
  (∃ v, e = .returned (.tuple #[v, .nilIface])) ∧ RunL w' g D t ∧ w.grownBy w' (some g)
theorem cells5 : (Try.prog.info? 5).map (·.size) = some 1 := by kernel_rfl
/-- the buffer with m bytes of E laid in from place k on -/
def bufPut (B : Nat → Int) (k m : Nat) (E : Nat → Int) : Nat → Int := fun i => if k ≤ i ∧ i < k + m then E (i - k) else B i
theorem xv_mid {x1 x2 x3 x4 t : Int} {B : Nat → Int} {u : Int} {i : Nat} (h1 : 5 ≤ i) (h2 : i < 21) : xv x1 x2 x3 x4 t B u i = .int .u8 (B (i - 5)) := by
  unfold xv
  split <;> first | omega | rfl
theorem xv_other {x1 x2 x3 x4 t : Int} {B B' : Nat → Int} {u : Int} {i : Nat} (h : i < 5 ∨ i = 21) : xv x1 x2 x3 x4 t B u i = xv x1 x2 x3 x4 t B' u i := by
  have : i = 0 ∨ i = 1 ∨ i = 2 ∨ i = 3 ∨ i = 4 ∨ i = 21 := by omega
  rcases this with rfl | rfl | rfl | rfl | rfl | rfl <;> rfl
theorem St.copied {w : World} {g : Nat} {x1 x2 x3 x4 t : Int} {B : Nat → Int} {u : Int} {k m : Nat} {E : Nat → Int} (hk : k + m ≤ 16)
    (h : Rowf w g 44 22 (upd (xv x1 x2 x3 x4 t B u) (5 + k) m fun j => .int .u8 (E j))) : St w g x1 x2 x3 x4 t (bufPut B k m E) u := by
  refine Rowf.congr h fun i hi => ?_
  unfold upd
  by_cases h1 : 5 + k ≤ i ∧ i < 5 + k + m
  · rw [if_pos h1, xv_mid (by omega) (by omega)]
    unfold bufPut
    rw [if_pos (by omega), show i - 5 - k = i - (5 + k) by omega]
  · rw [if_neg h1]
    by_cases h2 : 5 ≤ i ∧ i < 21
    · rw [xv_mid h2.1 h2.2, xv_mid h2.1 h2.2]
      unfold bufPut
      rw [if_neg (by omega)]
    · exact xv_other (by omega)
theorem run_bufFrom (g m : Nat) (hm : m < 16) (w : World) :
    (Instr.sliceAt 42 (.pointer (some ⟨g, 5, none⟩)) (some (.int .i64 (m : Int))) none none).run Try.prog w = .ok (.slice (some ⟨g, 5 + m, none⟩) (16 - m) (16 - m)) w := by
  have hu : Try.prog.underlying 42 = some (.array (Try.prog.arrayLen 42) (Try.prog.elem 42)) := by kernel_rfl
  have hl : Try.prog.arrayLen 42 = 16 := by kernel_rfl
  have hs : ∀ w, (Go.sizeOf (Try.prog.elem 42)).run Try.prog w = .ok 1 w := fun _ => by kernel_rfl
  rw [run_sliceAt_array_l (P := Try.prog) w 42 ⟨g, 5, none⟩ hu .i64 (m : Int) (by omega) (by rw [hl]; omega), hs, hl]
  simp only [Result.andThen, slicedAt, Int.toNat_natCast, Nat.mul_one]
  rw [if_neg (by omega)]
  cases m <;> rfl
/-- the bytes that a slice holds, seen in a world in which only block g has turned -/
theorem src_at {w w' : World} {g : Nat} {a0 : Option Addr} {n cap : Nat} {E : Nat → Int} (hM : Mem w .u8 a0 n cap E) (hne : ∀ x, a0 = some x → x.block ≠ g) (hg : w.grownBy w' (some g)) : Mem w' .u8 a0 n cap E := by
  obtain ⟨h1, h2, h3⟩ := hM
  refine ⟨h1, h2, h3.imp id ?_⟩
  rintro ⟨b, off, rfl, hc⟩
  exact ⟨b, off, rfl, fun i hi => grown_cell hg (hc i hi) (by intro e; exact hne _ rfl (Option.some.inj e))⟩
theorem run_put {w : World} {g : Nat} {x1 x2 x3 x4 t u : Int} {B E : Nat → Int} {k m : Nat} (h : St w g x1 x2 x3 x4 t B u) {a0 : Option Addr} {n cap : Nat} (hM : Mem w .u8 a0 n cap E) (hne : ∀ x, a0 = some x → x.block ≠ g) (hk : k < 16) (hm : m = min n (16 - k)) :
    ∃ w1, (Builtin.copy_ #[25, 25] 3 #[.slice (some ⟨g, 5 + k, none⟩) (16 - k) (16 - k), .slice a0 n cap]).run Try.prog w = .ok (.int .i64 (m : Int)) w1 ∧ St w1 g x1 x2 x3 x4 t (bufPut B k m E) u ∧ w.grownBy w1 (some g) := by
  obtain ⟨w1, h1, h2, h3⟩ := run_copy_view (P := Try.prog) 25 25 3 5 Try.underlying25 cells5 (some ⟨g, 5 + k, none⟩) a0 (16 - k) (16 - k) n cap g (5 + k) 44 22 m _ (fun j => .int .u8 (E j)) h hm
    (fun hpos => ⟨rfl, by
      rcases hM.2.2 with h0 | ⟨b, so, rfl, hc⟩
      · omega
      · exact ⟨b, so, rfl, fun j hj => hc j (by omega)⟩⟩) (by omega) (fun _ _ => rfl)
  exact ⟨w1, h1, St.copied (by omega) h2, h3⟩
/-- what the walk of a few bytes wants to know -/
theorem few_facts {w : World} {g : Nat} {x1 x2 x3 x4 : Int} {t m : Nat} {B E : Nat → Int} (h : St w g x1 x2 x3 x4 (t : Int) B (m : Int)) {a0 : Option Addr} {n cap : Nat} (hM : Mem w .u8 a0 n cap E) (hne : ∀ x, a0 = some x → x.block ≠ g) (hk : n < 16 - m) :
    ∃ w1, (Builtin.copy_ #[25, 25] 3 #[.slice (some ⟨g, 5 + m, none⟩) (16 - m) (16 - m), .slice a0 n cap]).run Try.prog (w.setCell ⟨g, 4, none⟩ (.int .u64 ((t : Int) + (n : Int)))) = .ok (.int .i64 (n : Int)) w1 ∧
      w1.cell? ⟨g, 21, none⟩ = some (.int .i64 (m : Int)) ∧ w1.frozen? ⟨g, 21, none⟩ = false ∧ Hid (St w1 g x1 x2 x3 x4 ((t : Int) + (n : Int)) (bufPut B m n E) (m : Int) ∧ w.grownBy w1 (some g)) := by
  have hg : w.grownBy (w.setCell ⟨g, 4, none⟩ (.int .u64 ((t : Int) + (n : Int)))) (some g) := grown_set (World.grownBy.refl _ _) _ _
  obtain ⟨w1, h1, h2, h3⟩ := run_put (k := m) (m := n) (h.set4 ((t : Int) + (n : Int))) (src_at hM hne hg) hne (by omega) (by omega)
  exact ⟨w1, h1, h2.c21, Rowf.free h2 21, h2, grown_trans hg h3⟩
theorem few_facts0 {w : World} {g : Nat} {x1 x2 x3 x4 : Int} {B E : Nat → Int} (h : St w g x1 x2 x3 x4 0 B 0) {a0 : Option Addr} {n cap : Nat} (hM : Mem w .u8 a0 n cap E) (hne : ∀ x, a0 = some x → x.block ≠ g) (hk : n < 16) :
    ∃ w1, (Builtin.copy_ #[25, 25] 3 #[.slice (some ⟨g, 5, none⟩) 16 16, .slice a0 n cap]).run Try.prog (w.setCell ⟨g, 4, none⟩ (.int .u64 (n : Int))) = .ok (.int .i64 (n : Int)) w1 ∧
      w1.cell? ⟨g, 21, none⟩ = some (.int .i64 0) ∧ w1.frozen? ⟨g, 21, none⟩ = false ∧ Hid (St w1 g x1 x2 x3 x4 (n : Int) (bufPut B 0 n E) 0 ∧ w.grownBy w1 (some g)) := by
  have := few_facts (t := 0) (m := 0) h hM hne (by omega)
  simpa using this
theorem bufPut_bd {B E : Nat → Int} {k m : Nat} (hB : ∀ i, 0 ≤ B i ∧ B i ≤ 255) (hE : ∀ i, 0 ≤ E i ∧ E i ≤ 255) : ∀ i, 0 ≤ bufPut B k m E i ∧ bufPut B k m E i ≤ 255 := by
  intro i
  unfold bufPut
  split
  · exact hE _
  · exact hB _
/-- a few bytes more: the law -/
theorem run_few {w : World} {g : Nat} {x1 x2 x3 x4 : Int} {t n : Nat} {B D : Nat → Int} (h : St w g x1 x2 x3 x4 ((t : Int) + (n : Int)) (bufPut B (t % 16) n (fun j => D (t + j))) (((t % 16 : Nat) : Int) + (n : Int))) (hk : n < 16 - t % 16)
    (hD : ∀ i, 0 ≤ D i ∧ D i ≤ 255) (hB : ∀ i, 0 ≤ B i ∧ B i ≤ 255) (hL : Lanes D (t / 16) x1 x2 x3 x4) (hBD : ∀ i, i < t % 16 → B i = D (16 * (t / 16) + i)) : RunL w g D (t + n) := by
  have e1 : (t + n) % 16 = t % 16 + n := by omega
  have e2 : (t + n) / 16 = t / 16 := by omega
  refine ⟨x1, x2, x3, x4, bufPut B (t % 16) n (fun j => D (t + j)), ?_, bufPut_bd hB (fun i => hD (t + i)), by rw [e2]; exact hL, ?_⟩
  · rw [e1]
    simpa using h
  · intro i hi
    rw [e2]
    unfold bufPut
    split
    · show D (t + (i - t % 16)) = _
      congr 1; omega
    · exact hBD i (by omega)
set_option maxHeartbeats 1000000 in
/-- a few bytes: they go into the buffer -/
theorem write_few {w : World} {g : Nat} {D : Nat → Int} {t : Nat} (hR : RunL w g D t) (ht : 0 < t) (hD : ∀ i, 0 ≤ D i ∧ D i ≤ 255)
    (a0 : Option Addr) (n cap : Nat) (hM : Mem w .u8 a0 n cap (fun i => D (t + i))) (hm : t + n ≤ 65536) (hn : n < 16 - t % 16)
    (hne : ∀ x, a0 = some x → x.block ≠ g) :
    Calls Try.prog 19 #[.pointer (some ⟨g, 0, none⟩), .slice a0 n cap] w (Written w g D (t + n)) := by
  obtain ⟨x1, x2, x3, x4, B, h, hB, hL, hBD⟩ := hR
  obtain ⟨w1, hcp, c21', f21', HS1⟩ := few_facts h hM hne hn
  have c4 := h.c4
  have c21 := h.c21
  have f4 := Rowf.free h 4
  have hu : t % 16 < 16 := Nat.mod_lt _ (by omega)
  have hcap := hM.1
  have hcm := hM.2.1
  have HH := Lib.hid (And.intro hB (And.intro hL hBD))
  clear h hM hne hL hBD hB
  have hsl := run_bufFrom g (t % 16) hu
  have HN := Lib.hid hn
  have hlt : (n : Int) < 16 - ((t % 16 : Nat) : Int) := by omega
  generalize hmm : t % 16 = m at *
  have HMM := Lib.hid hmm
  clear hmm hn
  have ht0 : ((t : Int) == 0) = false := by simp; omega
  go_enter Try.func19, Try.ntmps19
  go_wp2
  go_ret2
  have hmm := HMM.out
  obtain ⟨hB, hL, hBD⟩ := HH.out
  subst hmm
  exact ⟨⟨_, rfl⟩, run_few (HS1.out.1.set21 _) HN.out hD hB hL hBD, grown_set HS1.out.2 _ _⟩
set_option maxHeartbeats 1000000 in
/-- a few bytes, the first ones -/
theorem write_few0 {w : World} {g : Nat} {D : Nat → Int} {s1 s2 s3 s4 : Int} {B : Nat → Int} (hS : St w g s1 s2 s3 s4 0 B 0) (hB : ∀ i, 0 ≤ B i ∧ B i ≤ 255) (hD : ∀ i, 0 ≤ D i ∧ D i ≤ 255)
    (a0 : Option Addr) (n cap : Nat) (hM : Mem w .u8 a0 n cap D) (hn : n < 16) (hne : ∀ x, a0 = some x → x.block ≠ g) :
    Calls Try.prog 19 #[.pointer (some ⟨g, 0, none⟩), .slice a0 n cap] w (Written w g D n) := by
  have c4 := hS.c4
  have hcap := hM.1
  have hcm := hM.2.1
  have HS := Lib.hid hS
  have HM := Lib.hid hM
  have HNE := Lib.hid hne
  have HB := Lib.hid hB
  clear hS hM hne hB
  have hlt : (n : Int) < 16 := by omega
  go_enter Try.func19, Try.ntmps19
  go_wp2_with (go_at_call 29; refine Calls.mono (reset_any HS.out) ?_; rintro e w1 ⟨rfl, hS1, hg1⟩; (have c4' := hS1.c4); (have c21' := hS1.c21); (have f4' := Rowf.free hS1 4); (obtain ⟨w2, hcp, c21'', f21'', HS2⟩ := few_facts0 hS1 (src_at HM.out HNE.out hg1) HNE.out (by omega)); (have HG1 := Lib.hid hg1); clear hS1 hg1)
  go_ret2
  refine ⟨⟨_, rfl⟩, ?_, grown_set (grown_trans HG1.out HS2.out.2) _ _⟩
  have := run_few (t := 0) (n := n) (D := D) (B := B) (by simpa using HS2.out.1.set21 (n : Int)) (by omega) hD HB.out (Lanes.zero D) (by intro i hi; omega)
  simpa using this
end Go.Proofs.Ytkeiahjkbaejiaa
