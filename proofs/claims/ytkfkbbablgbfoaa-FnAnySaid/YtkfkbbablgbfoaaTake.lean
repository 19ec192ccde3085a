/-
  stepsOf's closure 'take': the next bytes.
-/
import Derived.Test.YtkfkbbablgbfoaaSize
import Derived.Test.YtkfkbbablgbfoaaMore
namespace Go.Proofs.Ytkfkbbablgbfoaa
open Go.RowKit
set_option linter.unusedVariables false
set_option maxHeartbeats 1000000
set_option maxRecDepth 20000
/-- the byte that stands at place i of the stream: out of the data, round and round; without data, numbers -/
def streamAt (Z : Nat → Int) (m i : Nat) : Int := if m = 0 then ((i * 31 % 256 : Nat) : Int) else Z (i % m)
/-- the closure's state: 'at' in block ba, the data's slice in block bd -/
structure TakeAt (w : World) (ba bd x m : Nat) (Z : Nat → Int) : Prop where
  at_ : w.cell? ⟨ba, 0, none⟩ = some (.int .i64 (x : Int))
  free : w.frozen? ⟨ba, 0, none⟩ = false
  data : ∃ da dc, w.cell? ⟨bd, 0, none⟩ = some (.slice da m dc) ∧ Mem w .u8 da m dc Z ∧ ∀ y, da = some y → 0 < m → y.block ≠ ba ∧ y.block < w.heap.size
  ne : bd ≠ ba
  rng : ∀ i, 0 ≤ Z i ∧ Z i ≤ 255
theorem wrap_u8 (x : Nat) : IntKind.u8.wrap (x : Int) = ((x % 256 : Nat) : Int) := by
  simp [IntKind.wrap, IntKind.bits, IntKind.signed]
theorem own_drewN {w : World} {base : Nat} {e : TypeId} {size : Nat} {v : Value} {n : Nat} {xs : List Value} (h : w.ownsRow base e size v n xs) (m : Nat) : (w.drewN m).ownsRow base e size v n xs := h
theorem frozen_grown {w w' : World} {row : Option Nat} {b : Nat} (hg : w.grownBy w' row) (hb : b < w.heap.size) (hne : some b ≠ row) (hz : w.frozen? ⟨b, 0, none⟩ = false) : w'.frozen? ⟨b, 0, none⟩ = false := by
  have h := hg.block b hb hne
  unfold World.frozen? at hz ⊢
  simpa [h] using hz
/-- behind an append to a row of the call's own: 'at' stands as it did -/
theorem at_kept {w wr w3 : World} {ba : Nat} {v : Value} {n : Nat} {xs : List Value} {o : Obj} {y : Value} (hb : ba < w.heap.size) (hwr : w.grownBy wr (some ba)) (hown : wr.ownsRow w.heap.size 5 1 v n xs) (hg : (wr.alloc o).grownBy w3 v.ownBlock)
    (hc : wr.cell? ⟨ba, 0, none⟩ = some y) (hf : wr.frozen? ⟨ba, 0, none⟩ = false) : w3.cell? ⟨ba, 0, none⟩ = some y ∧ w3.frozen? ⟨ba, 0, none⟩ = false ∧ w.grownBy w3 (some ba) := by
  have hne : some ba ≠ v.ownBlock := by
    intro e
    have := (hown.lt ba e.symm).1
    omega
  have hsz := hwr.size
  have h1 : wr.grownBy w3 v.ownBlock := grown_trans (World.grownBy_alloc wr o _) hg
  refine ⟨grown_cell h1 hc hne, frozen_grown h1 (by omega) hne hf, ⟨h1.os.trans hwr.os, h1.tape.trans hwr.tape, h1.output.trans hwr.output, Nat.le_trans hwr.size h1.size, fun i hi hr => ?_⟩⟩
  rw [h1.block i (by omega) (by
    intro e
    have := (hown.lt i e.symm).1
    omega)]
  exact hwr.block i hi hr
theorem take_next {w w3 : World} {ba x j m : Nat} {Z : Nat → Int} {v' : Value} {y : Int} (hb : ba < w.heap.size) (hown : w3.ownsRow w.heap.size 5 1 v' (j + 1) ((List.range j).map (fun i => Value.int .u8 (streamAt Z m (x + i))) ++ [Value.int .u8 y]))
    (hy : y = streamAt Z m (x + j)) (hg : w.grownBy w3 (some ba)) (c3 : w3.cell? ⟨ba, 0, none⟩ = some (.int .i64 ((x : Int) + (j : Int)))) (f3 : w3.frozen? ⟨ba, 0, none⟩ = false) :
    ((w3.setCell ⟨ba, 0, none⟩ (.int .i64 ((x : Int) + (j : Int) + 1))).ownsRow w.heap.size 5 1 v' (j + 1) ((List.range (j + 1)).map fun i => Value.int .u8 (streamAt Z m (x + i))) ∧ w.grownBy (w3.setCell ⟨ba, 0, none⟩ (.int .i64 ((x : Int) + (j : Int) + 1))) (some ba)) ∧
    (w3.setCell ⟨ba, 0, none⟩ (.int .i64 ((x : Int) + (j : Int) + 1))).cell? ⟨ba, 0, none⟩ = some (.int .i64 ((x : Int) + ((j + 1 : Nat) : Int))) ∧ (w3.setCell ⟨ba, 0, none⟩ (.int .i64 ((x : Int) + (j : Int) + 1))).frozen? ⟨ba, 0, none⟩ = false := by
  refine ⟨⟨ownsRow_setCell_below ?_ hb _, grown_set hg 0 _⟩, ?_, ?_⟩
  · rw [List.range_succ, List.map_append, List.map_singleton, ← hy]
    exact hown
  · rw [World.cell?_setCell_same' _ _ _ (by rw [c3]; rfl)]
    congr 2
  · simpa [go_sem] using f3
theorem take19 (k x ba bd m : Nat) (Z : Nat → Int) (w : World) (h : TakeAt w ba bd x m Z) (hk : k ≤ 100000) (hx : x ≤ 1000000000) (hm : m ≤ 1000000) :
    Calls Try.prog 19 #[.int .i64 (k : Int), .pointer (some ⟨ba, 0, none⟩), .pointer (some ⟨bd, 0, none⟩)] w fun e w' =>
      (∃ a c, e = .returned (.slice a k c) ∧ Mem w' .u8 a k c (fun i => streamAt Z m (x + i)) ∧ ∀ y, a = some y → w.heap.size ≤ y.block) ∧
      w'.cell? ⟨ba, 0, none⟩ = some (.int .i64 ((x + k : Nat) : Int)) ∧ w'.frozen? ⟨ba, 0, none⟩ = false ∧ w.grownBy w' (some ba) := by
  obtain ⟨i0, hi, hz0, hz1, hz2⟩ := info_parts info5
  obtain ⟨hat, hfr, ⟨da, dc, hdat, hM, hdb⟩, hne, hrng⟩ := h
  have hba : ba < w.heap.size := World.block_lt_of_cell? w _ hat
  have HM := Lib.hid hM
  have HDB := Lib.hid hdb
  have HD := Lib.hid hdat
  have HB := Lib.hid hba
  have HF := Lib.hid hfr
  have HA := Lib.hid hat
  clear hM hdb hdat hba hfr hat
  go_enter Try.func19, Try.ntmps19
  go_wp2
  go_loopw [5, 9] (fun o p wr => ∃ j : Nat, j ≤ k ∧ p = .int .i64 (j : Int) ∧
      Hid (wr.ownsRow w.heap.size 5 1 o j ((List.range j).map fun i => Value.int .u8 (streamAt Z m (x + i))) ∧ w.grownBy wr (some ba)) ∧
      Hid (wr.cell? ⟨ba, 0, none⟩ = some (.int .i64 ((x : Int) + (j : Int))) ∧ wr.frozen? ⟨ba, 0, none⟩ = false))
    (fun _ p _ => match p with | .int _ r => k - r.toNat | _ => 0)
  case atStart => exact ⟨0, by omega, rfl, Lib.hid ⟨World.ownsRow_made w #[] 0 (Nat.le_refl _) (Nat.zero_le _) rfl, grown_alloc (World.grownBy.refl _ _) _⟩, Lib.hid ⟨by rw [World.cell?_alloc_old _ _ _ (by have := HB.out; simp; omega)]; simpa using HA.out, frozen_grown (World.grownBy_alloc w _ none) HB.out (by simp) HF.out⟩⟩
  case round =>
    obtain ⟨j, hj, rfl, HI, HC⟩ := hrel
    by_cases hjk : j < k
    · have l1 : (j : Int) < (k : Int) := by omega
      obtain ⟨c0, f0⟩ := HC.out
      have c1 := grown_cell HI.out.2 HD.out (by intro e; exact hne (Option.some.inj e))
      by_cases hm0 : m = 0
      · subst hm0
        go_wp2_with (at_builtin; refine wpList_append_own _ rfl _ _ 22 rfl w.heap.size 5 i0 (.int .u8 0) 1 1 Try.underlying22 hi hz0 hz1 hz2 rfl (by decide) _ _ _ rfl (HI.out.1.alloc _) ⟨wr.heap.size, 0, none⟩ 1 1 [.int .u8 (((x : Int) + (j : Int)) * 31 % 256)] rfl rfl (cell_one_new _ _ _) (by intro u hu; simp at hu; subst hu; rfl) (by unfold maxLen; omega) (by omega) (by have := HI.out.2.size; simp; omega) ?_; intro v' w3 hown' hgrow _; (obtain ⟨c3, f3, hg3⟩ := at_kept HB.out HI.out.2 HI.out.1 hgrow c0 f0); (have HOWN := Lib.hid hown'); (have HGR := Lib.hid hg3); clear hown' hgrow hg3)
        have hnx := take_next (m := 0) (Z := Z) HB.out HOWN.out (by show ((x : Int) + (j : Int)) * 31 % 256 = (((x + j) * 31 % 256 : Nat) : Int); omega) HGR.out c3 f3
        refine ⟨⟨j + 1, by omega, rfl, Lib.hid hnx.1, Lib.hid hnx.2⟩, ?_⟩
        show k - ((j : Int) + 1).toNat < k - (j : Int).toNat
        omega
      · obtain ⟨_, _, h3 | ⟨b, off, rfl, hcs⟩⟩ := HM.out
        · omega
        have hlt : (x + j) % m < m := Nat.mod_lt _ (by omega)
        have c2 := grown_cell HI.out.2 (hcs _ hlt) (by intro e; exact (HDB.out _ rfl (by omega)).1 (Option.some.inj e))
        have d1 : decide ((m : Int) > 0) = true := by simp; omega
        have e2 : ((x : Int) + (j : Int)) % (m : Int) = (((x + j) % m : Nat) : Int) := by simp
        have hr0 := hrng ((x + j) % m)
        have HS : Hid (streamAt Z m (x + j) = Z ((x + j) % m)) := Lib.hid (if_neg hm0)
        generalize (x + j) % m = ix at hlt c2 e2 hr0 HS
        have l2 : (ix : Int) < (m : Int) := by omega
        generalize Z ix = Y at c2 hr0 HS
        clear hcs
        go_wp2
        go_quiet (fail)
        rename_i m0
        go_wp2_with (at_builtin; refine wpList_append_own _ rfl _ _ 22 rfl w.heap.size 5 i0 (.int .u8 0) 1 1 Try.underlying22 hi hz0 hz1 hz2 rfl (by decide) _ _ _ rfl ((own_drewN HI.out.1 _).alloc _) ⟨wr.heap.size, 0, none⟩ 1 1 [.int .u8 Y] rfl rfl (cell_one_new _ _ _) (by intro u hu; simp at hu; subst hu; rfl) (by unfold maxLen; omega) (by omega) (by have := HI.out.2.size; simp; omega) ?_; intro v' w3 hown' hgrow _; (obtain ⟨c3, f3, hg3⟩ := at_kept HB.out (grown_drewN HI.out.2 _) (own_drewN HI.out.1 _) hgrow c0 f0); (have HOWN := Lib.hid hown'); (have HGR := Lib.hid hg3); clear hown' hgrow hg3)
        have hnx := take_next (m := m) (Z := Z) HB.out HOWN.out HS.out.symm HGR.out c3 f3
        refine ⟨⟨j + 1, by omega, rfl, Lib.hid hnx.1, Lib.hid hnx.2⟩, ?_⟩
        show k - ((j : Int) + 1).toNat < k - (j : Int).toNat
        omega
    · obtain rfl : j = k := by omega
      have l1 : ¬ (j : Int) < (j : Int) := by omega
      have HI2 := HI
      clear hjk hj
      go_wp2
      go_ret
      obtain ⟨a, c, rfl, hm5, ho⟩ := mem_of_owns HI.out.1
      exact ⟨⟨a, c, rfl, hm5, ho⟩, by rw [HC.out.1], HC.out.2, HI.out.2⟩
end Go.Proofs.Ytkfkbbablgbfoaa
