/-
  The contract of updateGo (and of update): the four lanes take the buffer's sixteen bytes (if there is a buffer) and then all whole blocks of the input.
-/
import Derived.Test.YtkeiahjkbaejiaaState
namespace Go.Proofs.Ytkeiahjkbaejiaa
open Go.RowKit
set_option linter.unusedVariables false
/-- the four lanes behind k blocks of the bytes E, begun at the words s1 .. s4 -/
def LanesAt (E : Nat → Int) (k : Nat) (s1 s2 s3 s4 x1 x2 x3 x4 : Int) : Prop :=
  (x1 = lane E 0 s1 k ∧ x2 = lane E 1 s2 k ∧ x3 = lane E 2 s3 k ∧ x4 = lane E 3 s4 k) ∧ (0 ≤ x1 ∧ x1 ≤ 4294967295) ∧ (0 ≤ x2 ∧ x2 ≤ 4294967295) ∧ (0 ≤ x3 ∧ x3 ≤ 4294967295) ∧ (0 ≤ x4 ∧ x4 ≤ 4294967295)
theorem LanesAt.step {E : Nat → Int} {k : Nat} {s1 s2 s3 s4 x1 x2 x3 x4 : Int} (h : LanesAt E k s1 s2 s3 s4 x1 x2 x3 x4) :
    LanesAt E (k + 1) s1 s2 s3 s4 (rnd x1 (leD E (16 * k))) (rnd x2 (leD E (16 * k + 4))) (rnd x3 (leD E (16 * k + 8))) (rnd x4 (leD E (16 * k + 12))) := by
  obtain ⟨⟨rfl, rfl, rfl, rfl⟩, _⟩ := h
  exact ⟨⟨rfl, rfl, rfl, rfl⟩, rnd_bd _ _, rnd_bd _ _, rnd_bd _ _, rnd_bd _ _⟩
def Updated (w : World) (g : Nat) (E : Nat → Int) (k : Nat) (s1 s2 s3 s4 t : Int) (B : Nat → Int) (u : Int) (e : Ending) (w' : World) : Prop :=
  e = .returned (.tuple #[]) ∧ ∃ x1 x2 x3 x4, LanesAt E k s1 s2 s3 s4 x1 x2 x3 x4 ∧ St w' g x1 x2 x3 x4 t B u ∧ w.grownBy w' (some g)
theorem le_buf (M : Nat → Int) (b lo hi : Nat) (o : Nat) (len cap : Nat) (w : World) (hlen : 4 ≤ len) (hM : ∀ i, lo ≤ i → i < hi → w.cell? ⟨b, i, none⟩ = some (.int .u8 (M i))) (hb : ∀ i, 0 ≤ M (i + lo) ∧ M (i + lo) ≤ 255) (hlo : lo ≤ o) (hhi : o + 4 ≤ hi) :
    Calls Try.prog 22 #[.slice (some ⟨b, o, none⟩) len cap] w fun e w' => e = .returned (.int .u32 (le4 (M o) (M (o + 1)) (M (o + 2)) (M (o + 3)))) ∧ ∃ m, w' = w.drewN m :=
  have hb' : ∀ j, lo ≤ j → 0 ≤ M j ∧ M j ≤ 255 := fun j hj => by have := hb (j - lo); rwa [Nat.sub_add_cancel hj] at this
  le_any b o len cap _ _ _ _ w hlen (hM _ (by omega) (by omega)) (hM _ (by omega) (by omega)) (hM _ (by omega) (by omega)) (hM _ (by omega) (by omega)) (hb' _ (by omega)) (hb' _ (by omega)) (hb' _ (by omega)) (hb' _ (by omega))
theorem St.drewN {w : World} {g : Nat} {x1 x2 x3 x4 t : Int} {B : Nat → Int} {u : Int} (h : St w g x1 x2 x3 x4 t B u) (m : Nat) : St (w.drewN m) g x1 x2 x3 x4 t B u := h
set_option maxHeartbeats 1000000 in
/-- without a buffer -/
theorem update_nil {w : World} {g : Nat} {s1 s2 s3 s4 t : Int} {B : Nat → Int} {u : Int} (h : St w g s1 s2 s3 s4 t B u)
    (b1 : 0 ≤ s1 ∧ s1 ≤ 4294967295) (b2 : 0 ≤ s2 ∧ s2 ≤ 4294967295) (b3 : 0 ≤ s3 ∧ s3 ≤ 4294967295) (b4 : 0 ≤ s4 ∧ s4 ≤ 4294967295)
    (a0 : Option Addr) (b off n cap : Nat) (hA : 0 < n → a0 = some ⟨b, off, none⟩) (M : Nat → Int) (hb : ∀ i, 0 ≤ M i ∧ M i ≤ 255) (hm : n ≤ 65536) (hcap : n ≤ cap) (hcm : cap ≤ 9223372036854775807)
    (hc : ∀ i, off ≤ i → i < off + n → w.cell? ⟨b, i, none⟩ = some (.int .u8 (M i))) :
    Calls Try.prog 31 #[.pointer (some ⟨g, 0, none⟩), .pointer none, .slice a0 n cap] w (Updated w g (fun i => M (off + i)) (n / 16) s1 s2 s3 s4 t B u) := by
  have c0 := h.c0
  have c1 := h.c1
  have c2 := h.c2
  have c3 := h.c3
  have f0 := Rowf.free h 0
  have f1 := Rowf.free h 1
  have f2 := Rowf.free h 2
  have f3 := Rowf.free h 3
  have HC := Lib.hid hc
  have HB := Lib.hid hb
  have H := Lib.hid h
  have HA0 := Lib.hid hA
  clear h hc hb hA
  go_enter Try.func31, Try.ntmps31
  go_wp2
  go_quiet (fail)
  go_wp2
  go_loopw [2, 6, 7, 8, 9] (fun s v1 v2 v3 v4 wr => ∃ (k : Nat) (a : Option Addr) (x1 x2 x3 x4 : Int), 16 * k ≤ n ∧ s = .slice a (n - 16 * k) (cap - 16 * k) ∧ Hid (16 * k < n → a = some ⟨b, off + 16 * k, none⟩) ∧
      v1 = .int .u32 x1 ∧ v2 = .int .u32 x2 ∧ v3 = .int .u32 x3 ∧ v4 = .int .u32 x4 ∧ LanesAt (fun i => M (off + i)) k s1 s2 s3 s4 x1 x2 x3 x4 ∧ ∃ m, wr = w.drewN m)
    (fun s _ _ _ _ _ => match s with | .slice _ l _ => l | _ => 0)
  case atStart => exact ⟨0, _, _, _, _, _, by omega, rfl, HA0.out, rfl, rfl, rfl, rfl, ⟨⟨rfl, rfl, rfl, rfl⟩, b1, b2, b3, b4⟩, _, rfl⟩
  case round =>
    obtain ⟨k, a, x1, x2, x3, x4, hk, rfl, HA, rfl, rfl, rfl, rfl, hL, m, rfl⟩ := hrel
    by_cases hlt : 16 * k + 16 ≤ n
    · obtain rfl := HA.out (by omega)
      have hlen : 16 ≤ n - 16 * k := by omega
      clear HA
      go_wp2_with (first
        | (go_at_call 22; refine Calls.mono (le_mem M _ _ off (off + n) _ _ _ (by omega) HC.out HB.out (by omega) (by omega)) ?_; rintro e w' ⟨rfl, m', rfl⟩)
        | (go_at_call 21; refine Calls.mono (rol13_any _ (by omega) (by omega) _) ?_; rintro e w' ⟨rfl, rfl⟩))
      all_goals
        go_roundw
        case rel =>
          have hS := hL.step
          simp only [rnd, leD, ← Nat.add_assoc] at hS
          exact ⟨k + 1, _, _, _, _, _, by omega, by congr 1 <;> omega, by intro h; rw [if_neg (by omega)]; simp [Nat.mul_add, Nat.add_assoc], rfl, rfl, rfl, rfl, hS, _, rfl⟩
        case measure => show n - 16 * k - 16 < n - 16 * k; omega
    · have hd : decide (16 ≤ ((n - 16 * k : Nat) : Int)) = false := by simp; omega
      have hke : n / 16 = k := by omega
      have HL := Lib.hid hL
      have HK := Lib.hid hke
      clear hL hke
      go_wp2
      go_region
      all_goals go_wp2
      all_goals go_end0
      all_goals exact ⟨rfl, x1, x2, x3, x4, by rw [HK.out]; exact HL.out, ((((H.out.drewN (m + 1)).set0 _).set1 _).set2 _).set3 _, grown_set (grown_set (grown_set (grown_set (grown_drewN (World.grownBy.refl _ _) (m + 1)) _ _) _ _) _ _) _ _⟩
theorem bufStep {MB B : Nat → Int} (h : ∀ i, MB (5 + i) = B i) (s : Int) (i : Nat) :
    rl 13 ((s + le4 (MB (5 + i)) (MB (5 + i + 1)) (MB (5 + i + 2)) (MB (5 + i + 3)) * 2246822519) % 4294967296) * 2654435761 % 4294967296 = rnd s (leD B i) := by
  unfold rnd leD
  rw [h i, show 5 + i + 1 = 5 + (i + 1) by omega, h, show 5 + i + 2 = 5 + (i + 2) by omega, h, show 5 + i + 3 = 5 + (i + 3) by omega, h]
set_option maxHeartbeats 1000000 in
/-- with the state's own buffer, full -/
theorem update_buf {w : World} {g : Nat} {s1 s2 s3 s4 t : Int} {B : Nat → Int} {u : Int} (h : St w g s1 s2 s3 s4 t B u) (hB : ∀ i, 0 ≤ B i ∧ B i ≤ 255)
    (a0 : Option Addr) (b off n cap : Nat) (hA : 0 < n → a0 = some ⟨b, off, none⟩) (M : Nat → Int) (hb : ∀ i, 0 ≤ M i ∧ M i ≤ 255) (hm : n ≤ 65536) (hcap : n ≤ cap) (hcm : cap ≤ 9223372036854775807)
    (hc : ∀ i, off ≤ i → i < off + n → w.cell? ⟨b, i, none⟩ = some (.int .u8 (M i))) :
    Calls Try.prog 31 #[.pointer (some ⟨g, 0, none⟩), .pointer (some ⟨g, 5, none⟩), .slice a0 n cap] w (Updated w g (fun i => M (off + i)) (n / 16) (rnd s1 (leD B 0)) (rnd s2 (leD B 4)) (rnd s3 (leD B 8)) (rnd s4 (leD B 12)) t B u) := by
  have c0 := h.c0
  have c1 := h.c1
  have c2 := h.c2
  have c3 := h.c3
  have f0 := Rowf.free h 0
  have f1 := Rowf.free h 1
  have f2 := Rowf.free h 2
  have f3 := Rowf.free h 3
  have HC := Lib.hid hc
  have HB := Lib.hid hb
  have H := Lib.hid h
  have HA0 := Lib.hid hA
  obtain ⟨MB, hMB⟩ : ∃ MB : Nat → Int, ∀ i, MB (5 + i) = B i := ⟨fun j => B (j - 5), fun i => by simp⟩
  have hBC : ∀ i, 5 ≤ i → i < 21 → w.cell? ⟨g, i, none⟩ = some (.int .u8 (MB i)) := by
    intro i h1 h2
    have h3 := h.cB (j := i - 5) (by omega)
    have h4 := hMB (i - 5)
    rw [show 5 + (i - 5) = i by omega] at h3 h4
    rw [h3, h4]
  have hMB2 : ∀ i, 0 ≤ MB (i + 5) ∧ MB (i + 5) ≤ 255 := by
    intro i
    rw [Nat.add_comm, hMB]
    exact hB i
  have HMB := Lib.hid hMB
  have HBC := Lib.hid hBC
  have HMB2 := Lib.hid hMB2
  clear h hc hb hA hMB hBC hMB2
  go_enter Try.func31, Try.ntmps31
  go_wp2
  go_quiet (fail)
  go_wp2_with (first
    | (go_at_call 22; refine Calls.mono (le_buf MB _ 5 21 _ _ _ _ (by omega) HBC.out HMB2.out (by omega) (by omega)) ?_; rintro e w' ⟨rfl, m', rfl⟩)
    | (go_at_call 21; refine Calls.mono (rol13_any _ (by omega) (by omega) _) ?_; rintro e w' ⟨rfl, rfl⟩))
  go_loopw [2, 6, 7, 8, 9] (fun s v1 v2 v3 v4 wr => ∃ (k : Nat) (a : Option Addr) (x1 x2 x3 x4 : Int), 16 * k ≤ n ∧ s = .slice a (n - 16 * k) (cap - 16 * k) ∧ Hid (16 * k < n → a = some ⟨b, off + 16 * k, none⟩) ∧
      v1 = .int .u32 x1 ∧ v2 = .int .u32 x2 ∧ v3 = .int .u32 x3 ∧ v4 = .int .u32 x4 ∧ LanesAt (fun i => M (off + i)) k (rnd s1 (leD B 0)) (rnd s2 (leD B 4)) (rnd s3 (leD B 8)) (rnd s4 (leD B 12)) x1 x2 x3 x4 ∧ ∃ m, wr = w.drewN m)
    (fun s _ _ _ _ _ => match s with | .slice _ l _ => l | _ => 0)
  case atStart => exact ⟨0, _, _, _, _, _, by omega, rfl, HA0.out, rfl, rfl, rfl, rfl, ⟨⟨bufStep HMB.out s1 0, bufStep HMB.out s2 4, bufStep HMB.out s3 8, bufStep HMB.out s4 12⟩, by omega, by omega, by omega, by omega⟩, _, rfl⟩
  case round =>
    obtain ⟨k, a, x1, x2, x3, x4, hk, rfl, HA, rfl, rfl, rfl, rfl, hL, m, rfl⟩ := hrel
    by_cases hlt : 16 * k + 16 ≤ n
    · obtain rfl := HA.out (by omega)
      have hlen : 16 ≤ n - 16 * k := by omega
      clear HA
      go_wp2_with (first
        | (go_at_call 22; refine Calls.mono (le_mem M _ _ off (off + n) _ _ _ (by omega) HC.out HB.out (by omega) (by omega)) ?_; rintro e w' ⟨rfl, m', rfl⟩)
        | (go_at_call 21; refine Calls.mono (rol13_any _ (by omega) (by omega) _) ?_; rintro e w' ⟨rfl, rfl⟩))
      all_goals
        go_roundw
        case rel =>
          have hS := hL.step
          simp only [rnd, leD, ← Nat.add_assoc] at hS
          exact ⟨k + 1, _, _, _, _, _, by omega, by congr 1 <;> omega, by intro h; rw [if_neg (by omega)]; simp [Nat.mul_add, Nat.add_assoc], rfl, rfl, rfl, rfl, hS, _, rfl⟩
        case measure => show n - 16 * k - 16 < n - 16 * k; omega
    · have hd : decide (16 ≤ ((n - 16 * k : Nat) : Int)) = false := by simp; omega
      have hke : n / 16 = k := by omega
      have HL := Lib.hid hL
      have HK := Lib.hid hke
      clear hL hke
      go_wp2
      go_region
      all_goals go_wp2
      all_goals go_end0
      all_goals exact ⟨rfl, x1, x2, x3, x4, by rw [HK.out]; exact HL.out, ((((H.out.drewN (m + 1)).set0 _).set1 _).set2 _).set3 _, grown_set (grown_set (grown_set (grown_set (grown_drewN (World.grownBy.refl _ _) (m + 1)) _ _) _ _) _ _) _ _⟩
end Go.Proofs.Ytkeiahjkbaejiaa
