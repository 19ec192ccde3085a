/-
  The contracts of u16 (two bytes, or a panic where one is missing) and of the deferred closure that catches a panic.
-/
import Derived.Test.YtkfkbbablgbfoaaDec0
namespace Go.Proofs.Ytkfkbbablgbfoaa
open Go.RowKit
set_option linter.unusedVariables false
theorem or16 (x y : Int) (hx : 0 ≤ x ∧ x ≤ 255) (hy : 0 ≤ y ∧ y ≤ 255) : bits .or .u16 x (y * 256) = x + 256 * y := by
  obtain ⟨a, rfl⟩ := Int.eq_ofNat_of_zero_le hx.1
  obtain ⟨b, rfl⟩ := Int.eq_ofNat_of_zero_le hy.1
  have hk : ∀ n : Int, 0 ≤ n → n < 2 ^ 16 → IntKind.u16.wrap n = n := by
    intro n h1 h2
    simp [IntKind.wrap, IntKind.bits, IntKind.signed]
    omega
  have h1 : a < 2 ^ 8 := by omega
  have e : ((b : Int) * 256) = ((2 ^ 8 * b : Nat) : Int) := by simp; omega
  rw [e, (bits_nat .u16 16 (by decide) hk a (2 ^ 8 * b) (by omega) (by omega)).2, Nat.or_comm, ← Nat.two_pow_add_eq_or_of_lt h1 b]
  simp; omega
theorem and15 (x : Int) (hx : 0 ≤ x ∧ x ≤ 255) : bits .and .u64 x 15 = x % 16 := by
  have hk : ∀ n : Int, 0 ≤ n → n < 2 ^ 8 → IntKind.u64.wrap n = n := by
    intro n h1 h2
    simp [IntKind.wrap, IntKind.bits, IntKind.signed]
    omega
  exact bits_mask .u64 8 (by decide) hk 4 (by decide) x hx.1 (by omega)
set_option maxHeartbeats 400000 in
theorem le16_ok (b o len cap : Nat) (x0 x1 : Int) (w : World) (hlen : 2 ≤ len) (c0 : w.cell? ⟨b, o, none⟩ = some (.int .u8 x0)) (c1 : w.cell? ⟨b, o + 1, none⟩ = some (.int .u8 x1))
    (b0 : 0 ≤ x0 ∧ x0 ≤ 255) (b1 : 0 ≤ x1 ∧ x1 ≤ 255) :
    Calls Try.prog 27 #[.slice (some ⟨b, o, none⟩) len cap] w fun e w' => e = .returned (.int .u16 (x0 + 256 * x1)) ∧ ∃ m, w' = w.drewN m := by
  have l1 : (1:Int) < len := by omega
  have l0' : 0 < len := by omega
  have ho := or16 x0 x1 b0 b1
  go_enter Try.func27, Try.ntmps27
  go_wp2
  go_quiet (fail)
  go_wp2
  go_ret
  exact ⟨rfl, _, rfl⟩
def Dies (w : World) (e : Ending) (w' : World) : Prop := (∃ v, Raised v ∧ e = .panicked [{ v := v, recovered := false }]) ∧ ∃ m, w' = w.drewN m
theorem bounds_i64 {α : Type} (x y : Int) (code : BoundsCode) (w : World) : ∃ v m, Raised v ∧ (boundsPanic .i64 x y code : Sem α).run Try.prog w = .halt (.panic v) (w.drewN m) := by
  have h : ∃ s w', (boundsPanic .i64 x y code : Sem α).run Try.prog w = .halt (.panic (boundsValue Try.prog (IntKind.i64.wrap x) y s code.toNat)) w' ∧ (w' = w ∨ w' = w.drew) := by
    unfold boundsPanic boundsValue
    split
    · refine ⟨?_, w.drew, ?_, .inr rfl⟩
      rotate_left
      simp [runtimePanic, goPanic, go_sem]
      rfl
    · simp [runtimePanic, goPanic, go_sem]
  obtain ⟨s, w', h1, h2⟩ := h
  rcases h2 with rfl | rfl
  · exact ⟨_, 0, ⟨_, _, rfl⟩, h1⟩
  · exact ⟨_, 1, ⟨_, _, rfl⟩, h1⟩
set_option maxHeartbeats 400000 in
theorem le16_dies (b o cap : Nat) (x0 : Int) (w : World) (c0 : w.cell? ⟨b, o, none⟩ = some (.int .u8 x0)) (b0 : 0 ≤ x0 ∧ x0 ≤ 255) :
    Calls Try.prog 27 #[.slice (some ⟨b, o, none⟩) 1 cap] w (Dies w) := by
  go_enter Try.func27, Try.ntmps27
  go_wp2
  go_region_dies
  all_goals
    obtain ⟨v, m, hv, hr⟩ := bounds_i64 (α := Value) 1 1 .index w.drew
    rw [hr]
    simp only [Result.andThen, Oper.upon]
    exact ⟨rfl, ⟨v, hv, rfl⟩, 1 + m, World.drewN_drew w m⟩
set_option maxHeartbeats 400000 in
theorem u16_ok (b o len cap : Nat) (x0 x1 : Int) (w : World) (hlen : 2 ≤ len) (c0 : w.cell? ⟨b, o, none⟩ = some (.int .u8 x0)) (c1 : w.cell? ⟨b, o + 1, none⟩ = some (.int .u8 x1))
    (b0 : 0 ≤ x0 ∧ x0 ≤ 255) (b1 : 0 ≤ x1 ∧ x1 ≤ 255) :
    Calls Try.prog 26 #[.slice (some ⟨b, o, none⟩) len cap] w fun e w' => e = .returned (.int .u64 (x0 + 256 * x1)) ∧ ∃ m, w' = w.drewN m := by
  go_enter Try.func26, Try.ntmps26
  go_wp2_with (go_at_call 27; refine Calls.mono (le16_ok b o len cap x0 x1 w hlen c0 c1 b0 b1) ?_; rintro e w' ⟨rfl, m, rfl⟩)
  go_ret
  exact ⟨rfl, _, rfl⟩
set_option maxHeartbeats 400000 in
theorem u16_dies (b o cap : Nat) (x0 : Int) (w : World) (c0 : w.cell? ⟨b, o, none⟩ = some (.int .u8 x0)) (b0 : 0 ≤ x0 ∧ x0 ≤ 255) :
    Calls Try.prog 26 #[.slice (some ⟨b, o, none⟩) 1 cap] w (Dies w) := by
  go_enter Try.func26, Try.ntmps26
  go_wp2_with (go_at_call 27; refine Calls.mono (le16_dies b o cap x0 w c0 b0) ?_; rintro e w' ⟨⟨v, hv, rfl⟩, m, rfl⟩)
  exact ⟨rfl, ⟨v, hv, rfl⟩, m, rfl⟩
/-- the deferred closure, of a frame that panics: the result is -2, the panic recovered -/
theorem catch_panicking (p : Addr) (x : Int) (v : Value) (hv : Raised v) (older : List PanicEntry) (w : World) (hc : w.cell? p = some (.int .i64 x)) (hz : w.frozen? p = false) :
    CallsD Try.prog 25 #[.pointer (some p)] (.panicking ({ v := v, recovered := false } :: older)) w fun e u' w' =>
      e = .returned (.tuple #[]) ∧ u' = .panicking ({ v := v, recovered := true } :: older) ∧ w' = w.setCell p (.int .i64 (-2)) := by
  obtain ⟨u, pv, rfl⟩ := hv
  refine callsD_of_wpS Try.func25 rfl fun c₀ cs hu => ?_
  apply wpS_seq
  apply wpS_region
  simp [wpOpsS, go_sem, recoverD, hu, Try.ntmps25, Exit.thenS]
  refine wpS_cond (t := true) (by simp [Act.eval, Array.replicate]) ?_
  simp only [if_true]
  apply wpS_region
  simp [wpOpsS, go_sem, hc, hz, bodyPostS, results, Try.results25]
/-- the deferred closure, of a frame that returns: nothing -/
theorem catch_idle (p : Addr) (w : World) :
    CallsD Try.prog 25 #[.pointer (some p)] .returning w fun e u' w' => e = .returned (.tuple #[]) ∧ u' = .returning ∧ w' = w := by
  refine callsD_of_wpS Try.func25 rfl fun c₀ cs hu => ?_
  apply wpS_seq
  apply wpS_region
  simp [wpOpsS, go_sem, recoverD, hu, Try.ntmps25, Exit.thenS]
  refine wpS_cond (t := false) (by simp [Act.eval, Array.replicate]) ?_
  simp only [Bool.false_eq_true, if_false]
  refine wpS_of_wp (wp_skip ?_)
  cases c₀
  simp_all [bodyPostS, results, Try.results25]
end Go.Proofs.Ytkfkbbablgbfoaa
