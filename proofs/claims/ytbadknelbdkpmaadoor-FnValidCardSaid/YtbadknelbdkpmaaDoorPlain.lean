/-
  The plain words of the sum: what one step of it does with a word and four bytes, or one byte. No program in sight.
-/
import Derived.Test.YtbadknelbdkpmaaDoorBase
namespace Go.Proofs.YtbadknelbdkpmaaDoor
open Go.RowKit
set_option linter.unusedVariables false

/-- one lane's step -/
def rnd (v x : Int) : Int := rl 13 ((v + x * 2246822519) % 4294967296) * 2654435761 % 4294967296
/-- the word of four bytes from place i on -/
def leD (D : Nat → Int) (i : Nat) : Int := le4 (D i) (D (i + 1)) (D (i + 2)) (D (i + 3))
/-- lane j behind k blocks of sixteen bytes -/
def lane (D : Nat → Int) (j : Nat) (s : Int) : Nat → Int
  | 0 => s
  | k + 1 => rnd (lane D j s k) (leD D (16 * k + 4 * j))
def t4 (h x : Int) : Int := rl 17 ((h + x * 3266489917) % 4294967296) * 668265263 % 4294967296
def t1 (h x : Int) : Int := rl 11 ((h + x * 374761393) % 4294967296) * 2654435761 % 4294967296
def tail4 (D : Nat → Int) (h : Int) : Nat → Int
  | 0 => h
  | k + 1 => t4 (tail4 D h k) (leD D (4 * k))
def tail1 (D : Nat → Int) (h : Int) : Nat → Int
  | 0 => h
  | k + 1 => t1 (tail1 D h k) (D k)
def mix (n : Nat) (p : Int) (h : Int) : Int := bits .xor .u32 h (h / 2 ^ n) * p % 4294967296
def fin (h : Int) : Int := bits .xor .u32 (mix 13 3266489917 (mix 15 2246822519 h)) (mix 13 3266489917 (mix 15 2246822519 h) / 2 ^ 16)
/-- the four lanes at once -/
def Lanes (D : Nat → Int) (k : Nat) (x1 x2 x3 x4 : Int) : Prop :=
  (x1 = lane D 0 606290984 k ∧ x2 = lane D 1 2246822519 k ∧ x3 = lane D 2 0 k ∧ x4 = lane D 3 1640531535 k) ∧ (0 ≤ x1 ∧ x1 ≤ 4294967295) ∧ (0 ≤ x2 ∧ x2 ≤ 4294967295) ∧ (0 ≤ x3 ∧ x3 ≤ 4294967295) ∧ (0 ≤ x4 ∧ x4 ≤ 4294967295)
theorem Lanes.zero (D : Nat → Int) : Lanes D 0 606290984 2246822519 0 1640531535 := by
  refine ⟨⟨rfl, rfl, rfl, rfl⟩, ?_⟩
  omega
theorem rnd_bd (v x : Int) : 0 ≤ rnd v x ∧ rnd v x ≤ 4294967295 := by
  unfold rnd; omega
theorem Lanes.step {D : Nat → Int} {k : Nat} {x1 x2 x3 x4 : Int} (h : Lanes D k x1 x2 x3 x4) :
    Lanes D (k + 1) (rnd x1 (leD D (16 * k))) (rnd x2 (leD D (16 * k + 4))) (rnd x3 (leD D (16 * k + 8))) (rnd x4 (leD D (16 * k + 12))) := by
  obtain ⟨⟨rfl, rfl, rfl, rfl⟩, _⟩ := h
  exact ⟨⟨rfl, rfl, rfl, rfl⟩, rnd_bd _ _, rnd_bd _ _, rnd_bd _ _, rnd_bd _ _⟩
/-- the sum of h and the four lanes, turned -/
def folded (n x1 x2 x3 x4 : Int) : Int := (n + (rl 1 x1 + rl 7 x2 + rl 12 x3 + rl 18 x4)) % 4294967296
/-- the word ahead of the tail, and the sum -/
def headOf (D : Nat → Int) (n : Nat) : Int :=
  if n < 16 then ((n : Int) + 374761393) % 4294967296
  else folded n (lane D 0 606290984 (n / 16)) (lane D 1 2246822519 (n / 16)) (lane D 2 0 (n / 16)) (lane D 3 1640531535 (n / 16))
def sumOf (D : Nat → Int) (n : Nat) : Int :=
  fin (tail1 (fun i => D (16 * (n / 16) + 4 * (n % 16 / 4) + i)) (tail4 (fun i => D (16 * (n / 16) + i)) (headOf D n) (n % 16 / 4)) (n % 4))
theorem sumOf_big {D : Nat → Int} {n k j i : Nat} {x1 x2 x3 x4 : Int} (h16 : 16 ≤ n) (hk : 16 * k ≤ n) (hk' : n < 16 * k + 16) (hj : 16 * k + 4 * j ≤ n) (hj' : n < 16 * k + 4 * j + 4) (hi : 16 * k + 4 * j + i = n) (hL : Lanes D k x1 x2 x3 x4) :
    sumOf D n = fin (tail1 (fun i => D (16 * k + 4 * j + i)) (tail4 (fun i => D (16 * k + i)) (folded n x1 x2 x3 x4) j) i) := by
  obtain ⟨⟨rfl, rfl, rfl, rfl⟩, _⟩ := hL
  have e1 : n / 16 = k := by omega
  have e2 : n % 16 / 4 = j := by omega
  have e3 : n % 4 = i := by omega
  unfold sumOf headOf
  rw [if_neg (by omega), e1, e2, e3]
theorem sumOf_small {D : Nat → Int} {n j i : Nat} (h16 : n < 16) (hj : 4 * j ≤ n) (hj' : n < 4 * j + 4) (hi : 4 * j + i = n) :
    sumOf D n = fin (tail1 (fun i => D (4 * j + i)) (tail4 (fun i => D i) (((n : Int) + 374761393) % 4294967296) j) i) := by
  have e1 : n / 16 = 0 := by omega
  have e2 : n % 16 / 4 = j := by omega
  have e3 : n % 4 = i := by omega
  unfold sumOf headOf
  rw [if_pos (by omega), e1, e2, e3]
  simp
theorem tail4_step {M : Nat → Int} {off k j : Nat} {h hh : Int} (hT : hh = tail4 (fun i => M (off + (16 * k + i))) h j) :
    rl 17 ((hh + le4 (M (off + 16 * k + 4 * j)) (M (off + 16 * k + 4 * j + 1)) (M (off + 16 * k + 4 * j + 2)) (M (off + 16 * k + 4 * j + 3)) * 3266489917) % 4294967296) * 668265263 % 4294967296 = tail4 (fun i => M (off + (16 * k + i))) h (j + 1) := by
  subst hT; simp only [tail4, t4, leD, ← Nat.add_assoc]
theorem tail1_step {M : Nat → Int} {off k j i : Nat} {h hh : Int} (hT : hh = tail1 (fun i => M (off + (16 * k + 4 * j + i))) h i) :
    rl 11 ((hh + M (off + 16 * k + (4 * j + i)) * 374761393) % 4294967296) * 2654435761 % 4294967296 = tail1 (fun i => M (off + (16 * k + 4 * j + i))) h (i + 1) := by
  subst hT; simp only [tail1, t1, ← Nat.add_assoc]
theorem tail4_step0 {M : Nat → Int} {off j : Nat} {h hh : Int} (hT : hh = tail4 (fun i => M (off + i)) h j) :
    rl 17 ((hh + le4 (M (off + 4 * j)) (M (off + 4 * j + 1)) (M (off + 4 * j + 2)) (M (off + 4 * j + 3)) * 3266489917) % 4294967296) * 668265263 % 4294967296 = tail4 (fun i => M (off + i)) h (j + 1) := by
  subst hT; simp only [tail4, t4, leD, ← Nat.add_assoc]
theorem tail1_step0 {M : Nat → Int} {off j i : Nat} {h hh : Int} (hT : hh = tail1 (fun i => M (off + (4 * j + i))) h i) :
    rl 11 ((hh + M (off + (4 * j + i)) * 374761393) % 4294967296) * 2654435761 % 4294967296 = tail1 (fun i => M (off + (4 * j + i))) h (i + 1) := by
  subst hT; simp only [tail1, t1, ← Nat.add_assoc]
theorem tail1_stepS {M : Nat → Int} {off k j i : Nat} {h hh : Int} (hT : hh = tail1 (fun i => M (off + (16 * k + 4 * j + i))) h i) :
    rl 11 ((hh + M (off + 16 * k + 4 * j + i) * 374761393) % 4294967296) * 2654435761 % 4294967296 = tail1 (fun i => M (off + (16 * k + 4 * j + i))) h (i + 1) := by
  subst hT; simp only [tail1, t1, ← Nat.add_assoc]
theorem tail1_step0S {M : Nat → Int} {off j i : Nat} {h hh : Int} (hT : hh = tail1 (fun i => M (off + (4 * j + i))) h i) :
    rl 11 ((hh + M (off + 4 * j + i) * 374761393) % 4294967296) * 2654435761 % 4294967296 = tail1 (fun i => M (off + (4 * j + i))) h (i + 1) := by
  subst hT; simp only [tail1, t1, ← Nat.add_assoc]
theorem ret_u32 {a b : Int} (h : a = b) : Ending.returned (.int .u32 a) = Ending.returned (.int .u32 b) := by rw [h]
theorem wrap_u32 (y : Int) : IntKind.u32.wrap y = y % 4294967296 := by
  simp [IntKind.wrap, IntKind.signed, IntKind.bits]
theorem wrap_bd (y : Int) : 0 ≤ IntKind.u32.wrap y ∧ IntKind.u32.wrap y ≤ 4294967295 := by rw [wrap_u32]; omega
/-- 'turn' at a lane's step, in the spelling of a region that draws -/
theorem turn_rnd (v x : Int) (w : World) :
    Calls Tryd.prog 17 #[.int .u32 (IntKind.u32.wrap (v + IntKind.u32.wrap (x * 2246822519))), .int .i64 13] w fun e w' => e = .returned (.int .u32 (rl 13 ((v + x * 2246822519) % 4294967296))) ∧ ∃ m, w' = w.drewN m := by
  have h := turn_any (IntKind.u32.wrap (v + IntKind.u32.wrap (x * 2246822519))) 13 (wrap_bd _).1 (wrap_bd _).2 (by omega) w
  simp only [wrap_u32, Int.add_emod_emod] at h ⊢
  exact h
/-- the lanes in the middle of a round: the first j are stepped -/
def Inner (M : Nat → Int) (o : Nat) (x1 x2 x3 x4 : Int) (j : Nat) (y1 y2 y3 y4 : Int) : Prop :=
  y1 = (if 0 < j then rnd x1 (leM M o) else x1) ∧ y2 = (if 1 < j then rnd x2 (leM M (o + 4)) else x2) ∧ y3 = (if 2 < j then rnd x3 (leM M (o + 8)) else x3) ∧ y4 = (if 3 < j then rnd x4 (leM M (o + 12)) else x4)
theorem Inner.step0 {M : Nat → Int} {o : Nat} {x1 x2 x3 x4 y1 y2 y3 y4 : Int} (h : Inner M o x1 x2 x3 x4 0 y1 y2 y3 y4) : Inner M o x1 x2 x3 x4 1 (rl 13 ((y1 + leM M o * 2246822519) % 4294967296) * 2654435761 % 4294967296) y2 y3 y4 := by
  obtain ⟨rfl, rfl, rfl, rfl⟩ := h; exact ⟨rfl, rfl, rfl, rfl⟩
theorem Inner.step1 {M : Nat → Int} {o : Nat} {x1 x2 x3 x4 y1 y2 y3 y4 : Int} (h : Inner M o x1 x2 x3 x4 1 y1 y2 y3 y4) : Inner M o x1 x2 x3 x4 2 y1 (rl 13 ((y2 + leM M (o + 4) * 2246822519) % 4294967296) * 2654435761 % 4294967296) y3 y4 := by
  obtain ⟨rfl, rfl, rfl, rfl⟩ := h; exact ⟨rfl, rfl, rfl, rfl⟩
theorem Inner.step2 {M : Nat → Int} {o : Nat} {x1 x2 x3 x4 y1 y2 y3 y4 : Int} (h : Inner M o x1 x2 x3 x4 2 y1 y2 y3 y4) : Inner M o x1 x2 x3 x4 3 y1 y2 (rl 13 ((y3 + leM M (o + 8) * 2246822519) % 4294967296) * 2654435761 % 4294967296) y4 := by
  obtain ⟨rfl, rfl, rfl, rfl⟩ := h; exact ⟨rfl, rfl, rfl, rfl⟩
theorem Inner.step3 {M : Nat → Int} {o : Nat} {x1 x2 x3 x4 y1 y2 y3 y4 : Int} (h : Inner M o x1 x2 x3 x4 3 y1 y2 y3 y4) : Inner M o x1 x2 x3 x4 4 y1 y2 y3 (rl 13 ((y4 + leM M (o + 12) * 2246822519) % 4294967296) * 2654435761 % 4294967296) := by
  obtain ⟨rfl, rfl, rfl, rfl⟩ := h; exact ⟨rfl, rfl, rfl, rfl⟩
theorem Inner.done {M : Nat → Int} {off k : Nat} {x1 x2 x3 x4 y1 y2 y3 y4 : Int} (h : Inner M (off + 16 * k) x1 x2 x3 x4 4 y1 y2 y3 y4) (hL : Lanes (fun i => M (off + i)) k x1 x2 x3 x4) :
    Lanes (fun i => M (off + i)) (k + 1) y1 y2 y3 y4 := by
  have := hL.step
  simp only [leD, ← Nat.add_assoc] at this
  obtain ⟨rfl, rfl, rfl, rfl⟩ := h
  exact this
end Go.Proofs.YtbadknelbdkpmaaDoor
