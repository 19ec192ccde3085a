/-
  The contract of ZZPieces: the sum of pieces that make up the first T bytes of D is D's sum.
-/
import Derived.Test.YtkeiahjkbaejiaaSum32
namespace Go.Proofs.Ytkeiahjkbaejiaa
open Go.RowKit
set_option linter.unusedVariables false
theorem tail4_congr {B E : Nat → Int} {h : Int} : ∀ {j : Nat}, (∀ i, i < 4 * j → B i = E i) → tail4 B h j = tail4 E h j
  | 0, _ => rfl
  | j + 1, hh => by
    show t4 (tail4 B h j) (leD B (4 * j)) = t4 (tail4 E h j) (leD E (4 * j))
    rw [tail4_congr (fun i hi => hh i (by omega))]
    unfold leD
    rw [hh (4 * j) (by omega), hh (4 * j + 1) (by omega), hh (4 * j + 2) (by omega), hh (4 * j + 3) (by omega)]
theorem tail1_congr {B E : Nat → Int} {h : Int} : ∀ {j : Nat}, (∀ i, i < j → B i = E i) → tail1 B h j = tail1 E h j
  | 0, _ => rfl
  | j + 1, hh => by
    show t1 (tail1 B h j) (B j) = t1 (tail1 E h j) (E j)
    rw [tail1_congr (fun i hi => hh i (by omega)), hh j (by omega)]
theorem sum32_any {w : World} {g : Nat} {D : Nat → Int} {t : Nat} (hR : Run w g D t) (hm : t ≤ 65536) :
    Calls Try.prog 20 #[.pointer (some ⟨g, 0, none⟩)] w fun e w' => e = .returned (.int .u32 (sumOf D t)) ∧ Below w.heap.size w w' := by
  rcases hR with ⟨x1, x2, x3, x4, B, h, hB, hL, hBD⟩ | ⟨rfl, x1, x2, x3, x4, B, h, hB⟩
  · have e1 : ∀ H0 : Int, fin (tail1 (fun i => B (4 * (t % 16 / 4) + i)) (tail4 B H0 (t % 16 / 4)) (t % 16 - 4 * (t % 16 / 4))) =
        fin (tail1 (fun i => D (16 * (t / 16) + 4 * (t % 16 / 4) + i)) (tail4 (fun i => D (16 * (t / 16) + i)) H0 (t % 16 / 4)) (t % 4)) := by
      intro H0
      rw [tail4_congr (E := fun i => D (16 * (t / 16) + i)) (fun i hi => hBD i (by omega)), show t % 16 - 4 * (t % 16 / 4) = t % 4 by omega,
        tail1_congr (E := fun i => D (16 * (t / 16) + 4 * (t % 16 / 4) + i)) (fun i hi => by rw [hBD _ (by omega), Nat.add_assoc])]
    by_cases ht : t < 16
    · refine (sum32_small h ht (Nat.mod_lt _ (by omega)) hB).mono fun e w' ⟨he, hb⟩ => ⟨?_, hb⟩
      rw [he]
      refine ret_u32 ?_
      rw [e1]
      unfold sumOf headOf
      rw [if_pos ht]
    · refine (sum32_big h (by omega) hm (Nat.mod_lt _ (by omega)) hB hL.2.1 hL.2.2.1 hL.2.2.2.1 hL.2.2.2.2).mono fun e w' ⟨he, hb⟩ => ⟨?_, hb⟩
      rw [he]
      refine ret_u32 ?_
      rw [e1]
      unfold sumOf headOf
      obtain ⟨⟨rfl, rfl, rfl, rfl⟩, _⟩ := hL
      rw [if_neg ht]
  · refine (sum32_small (t := 0) (u := 0) h (by omega) (by omega) hB).mono fun e w' ⟨he, hb⟩ => ⟨?_, hb⟩
    rw [he]
    refine ret_u32 ?_
    rfl
/-- pieces: slices of bytes that make up D from t on, up to T -/
def Cut (w : World) (D : Nat → Int) : Nat → List Value → Nat → Prop
  | t, [], T => T = t
  | t, v :: r, T => ∃ a n c, v = .slice a n c ∧ Mem w .u8 a n c (fun i => D (t + i)) ∧ (∀ x, a = some x → x.block < w.heap.size) ∧ Cut w D (t + n) r T
theorem Cut.le {w : World} {D : Nat → Int} : ∀ {vs : List Value} {t T : Nat}, Cut w D t vs T → t ≤ T
  | [], t, T, h => by have : T = t := h; omega
  | v :: r, t, T, h => by
    obtain ⟨a, n, c, _, _, _, h'⟩ := h
    have := h'.le
    omega
theorem zero_st (w : World) : St (w.alloc (.cells #[.int .u32 0, .int .u32 0, .int .u32 0, .int .u32 0, .int .u64 0, .int .u8 0, .int .u8 0, .int .u8 0, .int .u8 0, .int .u8 0, .int .u8 0, .int .u8 0, .int .u8 0, .int .u8 0, .int .u8 0, .int .u8 0, .int .u8 0, .int .u8 0, .int .u8 0, .int .u8 0, .int .u8 0, .int .i64 0] 44)) w.heap.size 0 0 0 0 0 (fun _ => 0) 0 :=
  heap_alloc_new w _
set_option maxHeartbeats 1000000 in
theorem zpieces_any (pa : Option Addr) (np pc : Nat) (vs : List Value) (D : Nat → Int) (T : Nat) (w : World) (hD : ∀ i, 0 ≤ D i ∧ D i ≤ 255) (hT : T ≤ 65536) (hl : vs.length = np) (hnp : np ≤ 9223372036854775807)
    (hc : np = 0 ∨ ∃ b off, pa = some ⟨b, off, none⟩ ∧ ∀ i (h : i < vs.length), w.cell? ⟨b, off + i, none⟩ = some vs[i]) (hC : Cut w D 0 vs T) :
    Calls Try.prog 16 #[.slice pa np pc] w fun e w' => e = .returned (.int .u32 (sumOf D T)) ∧ Below w.heap.size w w' := by
  have HC := Lib.hid hc
  have HCUT := Lib.hid hC
  have HD := Lib.hid hD
  clear hc hC hD
  go_enter Try.func16, Try.ntmps16
  go_wp2
  have h0 := zero_st w
  have hb0 : Below w.heap.size w (w.alloc (.cells #[.int .u32 0, .int .u32 0, .int .u32 0, .int .u32 0, .int .u64 0, .int .u8 0, .int .u8 0, .int .u8 0, .int .u8 0, .int .u8 0, .int .u8 0, .int .u8 0, .int .u8 0, .int .u8 0, .int .u8 0, .int .u8 0, .int .u8 0, .int .u8 0, .int .u8 0, .int .u8 0, .int .u8 0, .int .i64 0] 44)) := (Below.refl _ _).alloc (Nat.le_refl _) _
  generalize w.alloc (.cells #[.int .u32 0, .int .u32 0, .int .u32 0, .int .u32 0, .int .u64 0, .int .u8 0, .int .u8 0, .int .u8 0, .int .u8 0, .int .u8 0, .int .u8 0, .int .u8 0, .int .u8 0, .int .u8 0, .int .u8 0, .int .u8 0, .int .u8 0, .int .u8 0, .int .u8 0, .int .u8 0, .int .u8 0, .int .i64 0] 44) = W at h0 hb0 ⊢
  have H0 := Lib.hid h0
  have HB0 := Lib.hid hb0
  clear h0 hb0
  go_loopw [5, 8] (fun _ i wr => ∃ (k t : Nat), k ≤ np ∧ i = .int .i64 (k : Int) ∧ Hid (Run wr w.heap.size D t ∧ Cut w D t (vs.drop k) T ∧ W.grownBy wr (some w.heap.size)))
    (fun _ i _ => np - (intOf i).toNat)
  case atStart => exact ⟨0, 0, by omega, rfl, .inr ⟨rfl, 0, 0, 0, 0, _, H0.out, fun _ => by omega⟩, HCUT.out, World.grownBy.refl _ _⟩
  case round =>
    obtain ⟨k, t, hk, rfl, HI⟩ := hrel
    by_cases hlt : k < np
    · obtain ⟨b, off, hpa, hcell⟩ : ∃ b off, pa = some (⟨b, off, none⟩ : Addr) ∧ ∀ i (h : i < vs.length), w.cell? ⟨b, off + i, none⟩ = some vs[i] := by
        rcases HC.out with h | h
        · omega
        · exact h
      subst hpa
      obtain ⟨hR, hC, hG⟩ := HI.out
      rw [List.drop_eq_getElem_cons (show k < vs.length by omega)] at hC
      obtain ⟨a, n, c, hv, hM, hblk, hC'⟩ := hC
      have hcw := hcell k (by omega)
      rw [hv] at hcw
      have hbl := World.block_lt_of_cell? w _ hcw
      have hcW : wr.cell? ⟨b, off + k, none⟩ = some (.slice a n c) := by
        refine grown_cell hG ?_ (by intro e; have := Option.some.inj e; omega)
        rw [HB0.out.cell (p := ⟨b, off + k, none⟩) hbl]
        exact hcw
      have hMr : Mem wr .u8 a n c (fun i => D (t + i)) := src_at (hM.below HB0.out) (by intro x hx; have := hblk x hx; omega) hG
      have HMr := Lib.hid hMr
      have HR := Lib.hid hR
      have HBLK := Lib.hid hblk
      have HC' := Lib.hid hC'
      have HG := Lib.hid hG
      have htn := hC'.le
      clear hcw hcell hbl hMr hR hblk hC' hG hM hv HI
      go_wp2_with (go_at_call 19; refine Calls.mono (write_any HR.out HD.out a n c HMr.out (by omega) (by intro x hx; have := HBLK.out x hx; omega)) ?_; rintro e w2 ⟨⟨v', rfl⟩, hR2, hg2⟩; (have HR2 := Lib.hid hR2); (have HG2 := Lib.hid hg2); clear hR2 hg2)
      go_roundw
      case rel => exact ⟨k + 1, t + n, by omega, by go_num, .inl HR2.out, HC'.out, grown_trans HG.out HG2.out⟩
      case measure => simp [intOf]; omega
    · have hke : k = np := by omega
      have hT : T = t := by
        obtain ⟨_, hC, _⟩ := HI.out
        rw [List.drop_eq_nil_of_le (by omega)] at hC
        exact hC
      have HT := Lib.hid hT
      clear hT
      have hd : decide ((k : Int) < (np : Int)) = false := by simp; omega
      have HK := Lib.hid hke
      clear hke
      go_wp2_with (go_at_call 20; refine Calls.mono (sum32_any HI.out.1 (by have := HT.out; omega)) ?_; rintro e w2 ⟨rfl, hb2⟩; (have HB2 := Lib.hid hb2); clear hb2)
      go_ret
      refine ⟨ret_u32 (by rw [HT.out]), ?_⟩
      have hg := HI.out.2.2
      refine HB0.out.trans (Below.trans ⟨hg.os, hg.tape, hg.output, hg.size, fun j hj => hg.block j (by have := HB0.out.size; omega) (by intro e; have := Option.some.inj e; omega)⟩ (HB2.out.mono (by have := HB0.out.size; have := hg.size; omega)))
end Go.Proofs.Ytkeiahjkbaejiaa
