/-
  The contract of slices.Clone at []byte: a slice of the same bytes in new memory (nil for nil); nothing that was there has turned. For every slice of up to 2^47 bytes.
-/
import Derived.Test.YtbadknelbdkpmaaDoorBase
import Derived.Lib.Hide
namespace Go.Proofs.YtbadknelbdkpmaaDoor
open Go.RowKit
set_option linter.unusedVariables false
/-- a slice of n numbers of the kind k: what its cells hold -/
def Mem (w : World) (k : IntKind) (a : Option Addr) (n cap : Nat) (D : Nat → Int) : Prop :=
  n ≤ cap ∧ cap ≤ 9223372036854775807 ∧ (n = 0 ∨ ∃ b off, a = some ⟨b, off, none⟩ ∧ ∀ i, i < n → w.cell? ⟨b, off + i, none⟩ = some (.int k (D i)))
/-- a slice of bytes of the call's own -/
def Cloned (w : World) (n : Nat) (D : Nat → Int) (e : Ending) (w' : World) : Prop :=
  ∃ a' c', e = .returned (.slice a' n c') ∧ Mem w' .u8 a' n c' D ∧ (∀ x, a' = some x → w.heap.size ≤ x.block) ∧ Below w.heap.size w w'
theorem info5 : (Tryd.prog.info? 5).map (fun i => (i.zero, i.size, i.bytes)) = some (some (.int .u8 0), 1, 1) := by kernel_rfl

theorem mem_of_owns {w : World} {base n : Nat} {v : Value} {D : Nat → Int} (h : w.ownsRow base 5 1 v n ((List.range n).map fun i => Value.int .u8 (D i))) :
    ∃ a' c', v = .slice a' n c' ∧ Mem w .u8 a' n c' D ∧ (∀ x, a' = some x → base ≤ x.block) := by
  have h2 := h
  rcases h.2 with ⟨rfl, rfl⟩ | ⟨g, cap, cur, rfl, hb, hg, hnc, hcm, hcs, htake⟩
  · exact ⟨none, 0, rfl, ⟨by omega, by omega, .inl rfl⟩, by simp⟩
  · refine ⟨_, cap, rfl, ⟨hnc, by unfold maxLen at hcm; omega, ?_⟩, by simp; omega⟩
    by_cases hn : n = 0
    · exact .inl hn
    · refine .inr ⟨g, 0, rfl, fun i hi => ?_⟩
      rw [Nat.zero_add, h2.cellAt i (by omega)]
      simp [hi]

set_option maxHeartbeats 400000 in
theorem clone_nil (n c : Nat) (w : World) : Calls Tryd.prog 16 #[.slice none n c] w fun e w' => e = .returned (.slice none 0 0) ∧ w' = w := by
  have q := fun (w : World) (a : Option Addr) (n c n' c' : Nat) => Lib.run_eql_slice_nil (P := Tryd.prog) w 23 5 a n c n' c' Tryd.underlying23
  go_enter Tryd.func16, Tryd.ntmps16
  go_wp2
  go_ret
  exact ⟨rfl, rfl⟩
set_option maxHeartbeats 1000000 in
theorem clone_at (a : Addr) (n c : Nat) (D : Nat → Int) (w : World) (hn : n ≤ 140737488355328) (hc : ∀ i, i < n → w.cell? (a.add i) = some (.int .u8 (D i))) :
    Calls Tryd.prog 16 #[.slice (some a) n c] w (Cloned w n D) := by
  have q := fun (w : World) (a : Option Addr) (n c n' c' : Nat) => Lib.run_eql_slice_nil (P := Tryd.prog) w 23 5 a n c n' c' Tryd.underlying23
  obtain ⟨i0, hi, hz0, hz1, hz2⟩ := info_parts info5
  have HC := Lib.hid hc
  clear hc
  go_enter Tryd.func16, Tryd.ntmps16
  go_wp2_with (at_builtin; refine wpList_append_own _ rfl _ _ 23 rfl w.heap.size 5 i0 (.int .u8 0) 1 1 Tryd.underlying23 hi hz0 hz1 hz2 rfl (by decide) _ _ _ rfl (World.ownsRow_made w #[] 0 (Nat.le_refl _) (Nat.zero_le _) rfl) a n c ((List.range n).map fun i => Value.int .u8 (D i)) rfl ?qc1 ?qc2 ?qc3 ?qc4 ?qc5 ?qc6 ?_)
  case qc1 => simp
  case qc2 =>
    intro j u hj
    have hjn : j < n := by
      have := (List.getElem?_eq_some_iff.1 hj).1
      simpa using this
    refine Lib.cell?_alloc_some _ ?_
    rw [HC.out j hjn]
    simpa [hjn] using hj
  case qc3 => intro u hu; obtain ⟨x, _, rfl⟩ := List.mem_map.1 hu; rfl
  case qc4 => unfold maxLen; omega
  case qc5 => omega
  case qc6 => simp
  intro v' w1 hown hgrow hnil
  go_wp2
  go_ret
  have hown' : w1.ownsRow w.heap.size 5 1 v' n ((List.range n).map fun i => Value.int .u8 (D i)) := by simpa using hown
  obtain ⟨a', c', rfl, hm, ho⟩ := mem_of_owns hown'
  exact ⟨a', c', rfl, hm, ho, ((Below.refl _ w).alloc (Nat.le_refl _) _).grown hgrow (by simp) (by intro k hk; simp [Value.ownBlock] at hk; omega)⟩
theorem clone_any (a : Option Addr) (n c : Nat) (D : Nat → Int) (w : World) (hn : n ≤ 140737488355328) (hM : Mem w .u8 a n c D) :
    Calls Tryd.prog 16 #[.slice a n c] w (Cloned w n D) := by
  obtain ⟨h1, h2, h3⟩ := hM
  cases a with
  | none =>
    obtain rfl : n = 0 := by rcases h3 with h | ⟨b, off, h, _⟩ <;> simp_all
    exact (clone_nil 0 c w).mono fun e w' ⟨he, hw⟩ => ⟨none, 0, he, ⟨by omega, by omega, .inl rfl⟩, by simp, hw ▸ Below.refl _ _⟩
  | some x =>
    refine clone_at x n c D w hn ?_
    rcases h3 with h | ⟨b, off, h, hc⟩
    · intro i hi; omega
    · obtain rfl : x = ⟨b, off, none⟩ := by simpa using h
      exact fun i hi => by rw [← hc i hi]; cases i <;> rfl
theorem Mem.below {w w' : World} {k : IntKind} {a : Option Addr} {n c : Nat} {D : Nat → Int} (h : Mem w k a n c D) (hb : Below w.heap.size w w') : Mem w' k a n c D := by
  obtain ⟨h1, h2, h3⟩ := h
  refine ⟨h1, h2, h3.imp id ?_⟩
  rintro ⟨b, off, rfl, hc⟩
  refine ⟨b, off, rfl, fun i hi => ?_⟩
  have := hc i hi
  rw [hb.cell (p := ⟨b, off + i, none⟩) (World.block_lt_of_cell? w _ this)]
  exact this
theorem Mem.drewN {w : World} {k : IntKind} {a : Option Addr} {n c : Nat} {D : Nat → Int} (h : Mem w k a n c D) (m : Nat) : Mem (w.drewN m) k a n c D := h
/-- the world W behind some draws -/
def Near (W w' : World) : Prop := ∃ m, w' = W.drewN m
theorem Near.refl (W : World) : Near W W := ⟨0, rfl⟩
theorem Near.of (W : World) (m : Nat) : Near W (W.drewN m) := ⟨m, rfl⟩
theorem Near.drewN {W w : World} (h : Near W w) (m : Nat) : Near W (w.drewN m) := by
  obtain ⟨k, rfl⟩ := h
  exact ⟨k + m, by rw [World.drewN_drewN]⟩
theorem Near.drew {W w : World} (h : Near W w) : Near W w.drew := h.drewN 1
end Go.Proofs.YtbadknelbdkpmaaDoor
