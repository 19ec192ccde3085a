/-
  spec.Steps: a block read as sequences: what it answers is the relation Read's.
-/
import Derived.Test.YtkfkbbablgbfoaaRowS
namespace Go.Proofs.Ytkfkbbablgbfoaa
open Go.RowKit
set_option linter.unusedVariables false
set_option maxHeartbeats 1000000
set_option maxRecDepth 20000
theorem noExt_of {S : Nat → Int} {n at0 : Nat} (hS : ∀ i, 0 ≤ S i ∧ S i ≤ 255) (h : ¬ ∃ k e, Ext S n at0 k e) : NoExt S n at0 := by
  intro j
  induction j using Nat.strongRecOn with
  | _ j ih =>
    intro h1 h2
    rcases Classical.em (S j = 255) with h3 | h3
    · exact h3
    · refine absurd ⟨j - at0, (S j).toNat, fun i hi => ih (at0 + i) (by omega) (by omega) (by omega), ?_, ?_, by omega⟩ h
      · have := hS j
        rw [show at0 + (j - at0) = j by omega]
        omega
      · have := hS j
        omega
/-- spec.more, whichever way -/
theorem more_any {a : Option Addr} {n c : Nat} {S : Nat → Int} (hS : ∀ i, 0 ≤ S i ∧ S i ≤ 255) (at0 k : Nat) (hn : n ≤ 1000000) (ha : at0 ≤ n) (hk : k ≤ 15) :
    (∃ si' L, LenOk S n at0 k 15 si' L ∧ at0 ≤ si' ∧ si' ≤ n ∧ L ≤ 300000000 ∧ ∀ u, Mem u .u8 a n c S →
      Calls Try.prog 15 #[.slice a n c, .int .i64 (at0 : Int), .int .i64 (k : Int)] u fun e w' => e = .returned (.tuple #[.int .i64 (L : Int), .int .i64 (si' : Int), .bool true]) ∧ w' = u) ∨
    (LenBad S n at0 k 15 ∧ ∀ u, Mem u .u8 a n c S →
      Calls Try.prog 15 #[.slice a n c, .int .i64 (at0 : Int), .int .i64 (k : Int)] u fun e w' => (∃ x, e = .returned (.tuple #[.int .i64 x, .int .i64 (n : Int), .bool false])) ∧ w' = u) := by
  by_cases h15 : k < 15
  · exact .inl ⟨at0, k, .inl ⟨h15, rfl, rfl⟩, Nat.le_refl _, ha, by omega, fun u _ => more_small at0 k h15⟩
  · obtain rfl : k = 15 := by omega
    by_cases h : ∃ k e, Ext S n at0 k e
    · obtain ⟨k, e, hE⟩ := h
      have h4 := hE.2.2.2
      have h5 := hE.2.2.1
      refine .inl ⟨at0 + k + 1, 15 + 255 * k + e, .inr ⟨rfl, k, e, hE, rfl, rfl⟩, by omega, by omega, by omega, fun u hM => ?_⟩
      have h6 := more_ext at0 k e hM hn hE
      refine Calls.mono h6 ?_
      rintro r w' ⟨rfl, rfl⟩
      exact ⟨by congr 4 <;> omega, rfl⟩
    · exact .inr ⟨⟨rfl, noExt_of hS h⟩, fun u hM => more_none at0 hM hn ha (noExt_of hS h)⟩
theorem lenOk_shift {S : Nat → Int} {n si base si' L : Nat} (h : LenOk S n si base 15 si' L) : LenOk S n si (base + 4) 19 si' (L + 4) := by
  rcases h with ⟨h1, h2, h3⟩ | ⟨h1, k, e, hE, h2, h3⟩
  · exact .inl ⟨by omega, by omega, h3⟩
  · exact .inr ⟨by omega, k, e, hE, by omega, h3⟩
theorem lenBad_shift {S : Nat → Int} {n si base : Nat} (h : LenBad S n si base 15) : LenBad S n si (base + 4) 19 := ⟨by have := h.1; omega, h.2⟩
/-- a part of a slice of bytes, as the walk spells it -/
theorem mem_part {w : World} {a : Option Addr} {n c x L : Nat} {S : Nat → Int} (h : Mem w .u8 a n c S) (hx : x + L ≤ n) (hc : c ≠ x) : MemL w (a.map (fun p => p.add x)) (c - x) (slit S x L) := by
  refine memL_slit ?_
  obtain ⟨h1, h2, h3⟩ := h
  refine ⟨by omega, by omega, ?_⟩
  by_cases h0 : L = 0
  · exact .inl h0
  · rcases h3 with h3 | ⟨b, off, rfl, hcell⟩
    · omega
    · refine .inr ⟨b, off + x, by cases x <;> rfl, fun i hi => ?_⟩
      rw [Nat.add_assoc, hcell (x + i) (by omega)]
theorem mem_part2 {w : World} {b off n c x L : Nat} {S : Nat → Int} (h : Mem w .u8 (some ⟨b, off, none⟩) n c S) (hx : x + L ≤ n) (hc : c ≠ x) : MemL w (some ⟨b, off + x, none⟩) (c - x) (slit S x L) := by
  have h1 := mem_part h hx hc
  have e : (some (⟨b, off, none⟩ : Addr)).map (fun p => p.add x) = some ⟨b, off + x, none⟩ := by cases x <;> rfl
  rw [e] at h1
  exact h1
/-- the two bytes of a match's distance -/
theorem or_two (x y : Nat) (hx : x ≤ 255) (hy : y ≤ 255) : bits BinOp.or IntKind.i64 (x : Int) ((y : Int) * 256) = ((x + 256 * y : Nat) : Int) := by
  have hk : ∀ n : Int, 0 ≤ n → n < 2 ^ 16 → IntKind.i64.wrap n = n := by
    intro n h1 h2
    simp [IntKind.wrap, IntKind.bits, IntKind.signed]
    omega
  have h1 : x < 2 ^ 8 := by omega
  have e : ((y : Int) * 256) = ((2 ^ 8 * y : Nat) : Int) := by simp; omega
  rw [e, (bits_nat .i64 16 (by decide) hk x (2 ^ 8 * y) (by omega) (by omega)).2, Nat.or_comm, ← Nat.two_pow_add_eq_or_of_lt h1 y]
  congr 1
  omega
theorem and15i (t : Nat) (h : t < 256) : bits BinOp.and IntKind.i64 (t : Int) 15 = ((t % 16 : Nat) : Int) := by
  have hk : ∀ n : Int, 0 ≤ n → n < 2 ^ 8 → IntKind.i64.wrap n = n := by
    intro n h1 h2
    simp [IntKind.wrap, IntKind.bits, IntKind.signed]
    omega
  exact bits_mask .i64 8 (by decide) hk 4 (by decide) (t : Int) (by omega) (by omega)
theorem cell_setOther {w : World} {p : Addr} {v : Value} {g j : Nat} {u : Value} (h : w.cell? p = some v) (hne : p.block ≠ g) : (w.setCell ⟨g, j, none⟩ u).cell? p = some v :=
  grown_cell (grown_set (World.grownBy.refl w (some g)) j u) h (fun e => hne (Option.some.inj e))
theorem news_of_alloc {w : World} {g : Nat} (hg : w.heap.size = g) (cs : Array Value) (t : TypeId) : ∀ j u, cs.toList[j]? = some u → (w.alloc (.cells cs t)).cell? ((⟨g, 0, none⟩ : Addr).add j) = some u := by
  subst hg
  exact World.news_of_block (heap_alloc_new w _)
/-- the answer of spec.Steps -/
def StepsAns (w : World) (S : Nat → Int) (n : Nat) (e : Ending) (w' : World) : Prop :=
  ∃ l st v, Read S n 0 l st ∧ e = .returned (.tuple #[v, .int .i64 (st : Int)]) ∧ RowS w' w.heap.size (fun k => k < w.heap.size) v l ∧ Below w.heap.size w w' ∧ v ≠ .slice none 0 0
theorem steps7 (a : Option Addr) (n c : Nat) (S : Nat → Int) (w : World) (hM : Mem w .u8 a n c S) (hS : ∀ i, 0 ≤ S i ∧ S i ≤ 255) (hn : n ≤ 1000) :
    Calls Try.prog 7 #[.slice a n c] w (StepsAns w S n) := by
  have HM := Lib.hid hM
  have hc1 := hM.1
  have hc2 := hM.2.1
  have HS := Lib.hid hS
  clear hM hS
  by_cases h0 : n = 0
  · subst h0
    go_enter Try.func7, Try.ntmps7
    go_wp2
    go_ret2
    exact ⟨[], 2, _, .over, rfl, RowS.nil _ rfl _ _ (Nat.le_refl _), (Below.refl _ _).alloc (Nat.le_refl _) _, by simp⟩
  have h1 : ((n : Int) == 0) = false := by simp; omega
  go_enter Try.func7, Try.ntmps7
  go_upto_if 19 with fail
  go_loopw [4, 5] (fun o p wr => ∃ (si : Nat) (pre : List PStep), si ≤ n ∧ pre.length ≤ si ∧ p = .int .i64 (si : Int) ∧ Hid (∀ l st, Read S n si l st → Read S n 0 (pre ++ l) st) ∧
      Hid (RowS wr w.heap.size (fun k => k < w.heap.size) o pre) ∧ Hid (Below w.heap.size w wr) ∧ Hid (o ≠ .slice none 0 0))
    (fun _ p _ => match p with | .int _ r => n - r.toNat | _ => 0)
  case atStart => exact ⟨0, [], by omega, by simp, rfl, Lib.hid (fun l st h => h), Lib.hid (RowS.nil _ rfl _ _ (Nat.le_refl _)), Lib.hid ((Below.refl _ _).alloc (Nat.le_refl _) _), Lib.hid (by simp)⟩
  case round =>
    obtain ⟨si, pre, hsi, hpre, rfl, HR, HW, HB, HNN⟩ := hrel
    by_cases hend : n ≤ si
    · obtain rfl : si = n := by omega
      have l1 : (si : Int) ≤ (si : Int) := by omega
      go_wp2
      go_ret2
      exact ⟨pre, 2, _, by simpa using HR.out [] 2 .over, rfl, HW.out, HB.out, HNN.out⟩
    · have l1 : (si : Int) < (n : Int) := by omega
      obtain ⟨b, off, rfl, hcell⟩ : ∃ b off, a = some ⟨b, off, none⟩ ∧ ∀ i, i < n → w.cell? ⟨b, off + i, none⟩ = some (.int .u8 (S i)) := by
        obtain ⟨_, _, h5 | h5⟩ := HM.out
        · omega
        · exact h5
      have c0 := cell_below HB.out (hcell si (by omega))
      obtain ⟨t, ht⟩ : ∃ t : Nat, S si = (t : Int) := ⟨(S si).toNat, by have := HS.out si; omega⟩
      have ht2 : t < 256 := by have := HS.out si; omega
      have HT := Lib.hid ht
      rw [ht] at c0
      clear ht
      have HC := Lib.hid hcell
      clear hcell
      have hand := and15i t ht2
      rcases more_any (a := some ⟨b, off, none⟩) (n := n) (c := c) HS.out (si + 1) (t / 16) (by omega) (by omega) (by omega) with ⟨sx, L, hL, hx1, hx2, hL3, hcall⟩ | ⟨hL, hcall⟩
      · have HL := Lib.hid hL
        have HCA : Hid (∀ u, Mem u .u8 (some ⟨b, off, none⟩) n c S → Calls Try.prog 15 #[.slice (some ⟨b, off, none⟩) n c, .int .i64 ((si : Int) + 1), .int .i64 ((t : Int) / 16)] u fun e w' => e = .returned (.tuple #[.int .i64 (L : Int), .int .i64 (sx : Int), .bool true]) ∧ w' = u) := Lib.hid hcall
        clear hL hcall
        by_cases hover : n < sx + L
        · have l2 : (n : Int) < (sx : Int) + (L : Int) := by omega
          go_wp2_with (
            go_at_call 15
            refine Calls.mono (HCA.out _ (HM.out.below HB.out)) ?_
            rintro e w2 ⟨rfl, rfl⟩)
          go_ret2
          exact ⟨pre, 1, _, by simpa using HR.out [] 1 (.litBad t (by omega) HT.out (.inr ⟨sx, L, HL.out, hover⟩)), rfl, HW.out, HB.out, HNN.out⟩
        · have l2 : ¬ (n : Int) < (sx : Int) + (L : Int) := by omega
          have l3 : (sx : Int) ≤ (sx : Int) + (L : Int) := by omega
          have l4 : (sx : Int) + (L : Int) ≤ (c : Int) := by omega
          have l5 : (0 : Int) ≤ (sx : Int) := by omega
          by_cases hcx : c = sx
          · subst hcx
            obtain rfl : L = 0 := by omega
            obtain rfl : n = c := by omega
            have hat : n + 0 = n := by omega
            have l6 : ((n : Int) + ((0 : Nat) : Int) == (n : Int)) = true := by simp
            have hbo : Hid (b < w.heap.size) := Lib.hid (World.block_lt_of_cell? w _ (HC.out si (by omega)))
            by_cases h16 : t % 16 = 0
            · have h17 : (((t % 16 : Nat) : Int) == 0) = true := by simp; omega
              have h18 : ((t % 16 : Nat) : Int) = 0 := by omega
              go_wp2_with (first
                | (go_at_call 15
                   refine Calls.mono (HCA.out _ (HM.out.below HB.out)) ?_
                   rintro e w2 ⟨rfl, rfl⟩)
                | (at_builtin
                   refine wpList_append_step (base := w.heap.size) (G := fun k => k < w.heap.size) (v := u4) (l := pre) (s := ⟨slit S n 0, 0, 0⟩) (ad := some ⟨b, off, none⟩) (c := 0) rfl (.tmp 66) (.tmp 68) rfl rfl
                     ((HW.out.below ((Below.refl _ _).alloc (Nat.le_refl _) _)).below ((Below.refl _ _).alloc (Nat.le_refl _) _)) ⟨w2.heap.size + 1, 0, none⟩ 1 rfl
                     (by rw [show stepVals ⟨slit S n 0, 0, 0⟩ (some ⟨b, off, none⟩) (0) = (#[Value.slice (some ⟨b, off, none⟩) 0 0, Value.int IntKind.i64 0, Value.int IntKind.i64 0] : Array Value).toList by simp [stepVals, slit_length]]; exact news_of_alloc (by simp) _ _)
                     (by exact ⟨Nat.le_refl _, by decide, .inl rfl⟩)
                     (fun h6 p hp => by cases hp; exact ⟨fun h7 => by have h8 := (HW.out.lt _ h7.symm).1; have h9 := hbo.out; simp only at h8; omega, hbo.out⟩)
                     (by omega) (by have h5 := HB.out.size; simp; omega) ?_
                   intro v9 w9 row9 hg9 hat9
                   have HW9 := Lib.hid row9
                   have HB9 := Lib.hid (((HB.out.alloc HB.out.size _).alloc (by have h5 := HB.out.size; simp; omega) _).grown hg9 (by have h5 := HB.out.size; simp; omega) (fun k hk => (HW.out.lt k hk).1))
                   clear row9 hg9 hat9))
              go_ret2
              exact ⟨pre ++ [PStep.mk (slit S n 0) 0 0], 0, v9, HR.out _ 0 (.last t n 0 (by omega) HT.out HL.out (by omega) h16), rfl, HW9.out, HB9.out, HW9.out.ne (by simp)⟩
            · have h17 : (((t % 16 : Nat) : Int) == 0) = false := by simp; omega
              have h18 : ¬ ((t % 16 : Nat) : Int) = 0 := by omega
              go_wp2_with (
                go_at_call 15
                refine Calls.mono (HCA.out _ (HM.out.below HB.out)) ?_
                rintro e w2 ⟨rfl, rfl⟩)
              go_ret2
              have hb2 : ∀ o, Below w2.heap.size w2 (w2.alloc o) := fun o => (Below.refl _ _).alloc (Nat.le_refl _) _
              refine ⟨pre, 2, _, ?_, rfl, HW.out.below (hb2 _), HB.out.trans ((hb2 _).mono HB.out.size), HNN.out⟩
              have h5 := HR.out [] 2 (.openEnd t n 0 (by omega) HT.out HL.out (by omega) h16)
              simpa using h5
          · by_cases hat : sx + L = n
            · have l6 : ((sx : Int) + (L : Int) == (n : Int)) = true := by simp; omega
              have hbo : Hid (b < w.heap.size) := Lib.hid (World.block_lt_of_cell? w _ (HC.out si (by omega)))
              by_cases h16 : t % 16 = 0
              · have h17 : (((t % 16 : Nat) : Int) == 0) = true := by simp; omega
                have h18 : ((t % 16 : Nat) : Int) = 0 := by omega
                go_wp2_with (first
                  | (go_at_call 15
                     refine Calls.mono (HCA.out _ (HM.out.below HB.out)) ?_
                     rintro e w2 ⟨rfl, rfl⟩)
                  | (at_builtin
                     refine wpList_append_step (base := w.heap.size) (G := fun k => k < w.heap.size) (v := u4) (l := pre) (s := ⟨slit S sx L, 0, 0⟩) (ad := some ⟨b, off + sx, none⟩) (c := c - sx) rfl (.tmp 66) (.tmp 68) rfl rfl
                       ((HW.out.below ((Below.refl _ _).alloc (Nat.le_refl _) _)).below ((Below.refl _ _).alloc (Nat.le_refl _) _)) ⟨w2.heap.size + 1, 0, none⟩ 1 rfl
                       (by rw [show stepVals ⟨slit S sx L, 0, 0⟩ (some ⟨b, off + sx, none⟩) (c - sx) = (#[Value.slice (some ⟨b, off + sx, none⟩) (n - sx) (c - sx), Value.int IntKind.i64 0, Value.int IntKind.i64 0] : Array Value).toList by simp [stepVals, slit_length]; omega]; exact news_of_alloc (by simp) _ _)
                       ((((mem_part2 HM.out (by omega) hcx).below HB.out).below ((Below.refl _ _).alloc (Nat.le_refl _) _)).below ((Below.refl _ _).alloc (Nat.le_refl _) _))
                       (fun h6 p hp => by cases hp; exact ⟨fun h7 => by have h8 := (HW.out.lt _ h7.symm).1; have h9 := hbo.out; simp only at h8; omega, hbo.out⟩)
                       (by omega) (by have h5 := HB.out.size; simp; omega) ?_
                     intro v9 w9 row9 hg9 hat9
                     have HW9 := Lib.hid row9
                     have HB9 := Lib.hid (((HB.out.alloc HB.out.size _).alloc (by have h5 := HB.out.size; simp; omega) _).grown hg9 (by have h5 := HB.out.size; simp; omega) (fun k hk => (HW.out.lt k hk).1))
                     clear row9 hg9 hat9))
                go_ret2
                exact ⟨pre ++ [PStep.mk (slit S sx L) 0 0], 0, v9, HR.out _ 0 (.last t sx L (by omega) HT.out HL.out (by omega) h16), rfl, HW9.out, HB9.out, HW9.out.ne (by simp)⟩
              · have h17 : (((t % 16 : Nat) : Int) == 0) = false := by simp; omega
                have h18 : ¬ ((t % 16 : Nat) : Int) = 0 := by omega
                go_wp2_with (
                  go_at_call 15
                  refine Calls.mono (HCA.out _ (HM.out.below HB.out)) ?_
                  rintro e w2 ⟨rfl, rfl⟩)
                go_ret2
                have hb2 : ∀ o, Below w2.heap.size w2 (w2.alloc o) := fun o => (Below.refl _ _).alloc (Nat.le_refl _) _
                refine ⟨pre, 2, _, ?_, rfl, HW.out.below (hb2 _), HB.out.trans ((hb2 _).mono HB.out.size), HNN.out⟩
                have h5 := HR.out [] 2 (.openEnd t sx L (by omega) HT.out HL.out (by omega) h16)
                simpa using h5
            · by_cases hat2 : sx + L + 1 = n
              · have l6 : ((sx : Int) + (L : Int) == (n : Int)) = false := by simp; omega
                have l7 : (n : Int) < (sx : Int) + (L : Int) + 2 := by omega
                go_wp2_with (
                  go_at_call 15
                  refine Calls.mono (HCA.out _ (HM.out.below HB.out)) ?_
                  rintro e w2 ⟨rfl, rfl⟩)
                go_ret2
                have hb2 : ∀ o, Below w2.heap.size w2 (w2.alloc o) := fun o => (Below.refl _ _).alloc (Nat.le_refl _) _
                refine ⟨pre, 1, _, ?_, rfl, HW.out.below (hb2 _), HB.out.trans ((hb2 _).mono HB.out.size), HNN.out⟩
                have h5 := HR.out [] 1 (.matchBad t sx L (by omega) HT.out HL.out (by omega) (.inl hat2))
                simpa using h5
              · have l6 : ((sx : Int) + (L : Int) == (n : Int)) = false := by simp; omega
                have l7 : ¬ (n : Int) < (sx : Int) + (L : Int) + 2 := by omega
                go_wp2_with (
                  go_at_call 15
                  refine Calls.mono (HCA.out _ (HM.out.below HB.out)) ?_
                  rintro e w2 ⟨rfl, rfl⟩)
                have HSB := Lib.hid (SB.new w2 (.slice (some ⟨b, off + sx, none⟩) L (c - sx)) (.int .i64 0) (.int .i64 0))
                have HBW : Hid (Below w2.heap.size w2 (w2.alloc (Obj.cells #[Value.slice (some ⟨b, off + sx, none⟩) L (c - sx), Value.int IntKind.i64 0, Value.int IntKind.i64 0] 28))) := Lib.hid ((Below.refl _ _).alloc (Nat.le_refl _) _)
                have HLT : Hid (w.heap.size ≤ w2.heap.size) := Lib.hid HB.out.size
                generalize (w2.alloc (Obj.cells #[Value.slice (some ⟨b, off + sx, none⟩) L (c - sx), Value.int IntKind.i64 0, Value.int IntKind.i64 0] 28)) = W at HSB HBW ⊢
                generalize hbs : w2.heap.size = bs at HSB HLT ⊢
                have HBS := Lib.hid hbs
                clear hbs
                obtain ⟨p, hp⟩ : ∃ p : Nat, S (sx + L) = (p : Int) := ⟨(S (sx + L)).toNat, by have := HS.out (sx + L); omega⟩
                obtain ⟨q, hq⟩ : ∃ q : Nat, S (sx + L + 1) = (q : Int) := ⟨(S (sx + L + 1)).toNat, by have := HS.out (sx + L + 1); omega⟩
                have hp2 : p ≤ 255 := by have := HS.out (sx + L); omega
                have hq2 : q ≤ 255 := by have := HS.out (sx + L + 1); omega
                have d8 := cell_below HBW.out (cell_below HB.out (HC.out (sx + L) (by omega)))
                have d9 := cell_below HBW.out (cell_below HB.out (HC.out (sx + L + 1) (by omega)))
                rw [hp] at d8
                rw [hq] at d9
                have HO : Hid (S (sx + L) + 256 * S (sx + L + 1) = ((p + 256 * q : Nat) : Int)) := Lib.hid (by rw [hp, hq]; omega)
                clear hp hq
                have ho := or_two p q hp2 hq2
                have hno : p + 256 * q < 65536 := by omega
                generalize p + 256 * q = o at HO ho hno
                have hbne : b ≠ bs := by
                  have h5 := World.block_lt_of_cell? w _ (HC.out si (by omega))
                  have h6 := HLT.out
                  simp only at h5
                  omega
                have hzc : (sx : Int) + (L : Int) = ((sx + L : Nat) : Int) := by omega
                rw [hzc]
                obtain ⟨z, hz⟩ : ∃ z, z = sx + L := ⟨_, rfl⟩
                rw [← hz] at d8 d9 HO ⊢
                have l8 : (z : Int) < (n : Int) := by omega
                have l9 : (z : Int) + 1 < (n : Int) := by omega
                have hwz : IntKind.i64.wrap ((z : Int) + 1) = (z : Int) + 1 := by
                  simp [IntKind.wrap, IntKind.bits, IntKind.signed]
                  omega
                have l10 : (0 : Int) ≤ (z : Int) + 1 := by omega
                have n2 : ((z : Int) + 1).toNat = z + 1 := by omega
                have hw1 : IntKind.i64.wrap (q : Int) = (q : Int) := by
                  simp [IntKind.wrap, IntKind.bits, IntKind.signed]
                  omega
                have hw3 : IntKind.i64.wrap (p : Int) = (p : Int) := by
                  simp [IntKind.wrap, IntKind.bits, IntKind.signed]
                  omega
                have hw2 : IntKind.i64.wrap ((q : Int) * 256) = (q : Int) * 256 := by
                  simp [IntKind.wrap, IntKind.bits, IntKind.signed]
                  omega
                have HZ := Lib.hid hz
                clear hz hzc
                have e0 := HSB.out.c0
                have e1 := HSB.out.c1
                have e2 := HSB.out.c2
                have f1 := HSB.out.fr 1
                go_cut [5, 10] from 16 to 116 (fun s5 s10 wx => s5 = .int .i64 (z : Int) ∧ s10 = .pointer (some ⟨bs, 0, none⟩) ∧ Hid (SB wx bs (.slice (some ⟨b, off + sx, none⟩) L (c - sx)) (.int .i64 (o : Int)) (.int .i64 0)) ∧ Hid (Below w2.heap.size w2 wx))
                case first =>
                  go_region_held3 (fun w' => w'.cell? ⟨b, off + z, none⟩ = some (.int .u8 (p : Int)) ∧ w'.cell? ⟨b, off + (z + 1), none⟩ = some (.int .u8 (q : Int))) (first | exact ⟨d8, d9⟩ | exact ⟨cell_setOther (w := W.drew) d8 hbne, cell_setOther (w := W.drew) d9 hbne⟩) (fail)
                  go_wp2
                  go_meet
                  case rel => exact ⟨rfl, rfl, Lib.hid (HSB.out.set1 _), Lib.hid (Below.drew (Below.setCell HBW.out (by rw [HBS.out]; exact Nat.le_refl _) _))⟩
                case rest =>
                  obtain ⟨rfl, rfl, HSc, HBc⟩ := hcut
                  clear e0 e1 e2 f1 d8 d9 l8 l9 l10 hw1 hw2 hw3 n2
                  have c1 := HSc.out.c1
                  have c2 := HSc.out.c2
                  have f2 := HSc.out.fr 2
                  have hgr : Hid (∀ u v, Below w2.heap.size w2 ((wc.setCell ⟨bs, 2, none⟩ u).setCell ⟨bs, 2, none⟩ v)) := Lib.hid fun u v => Below.setCell (Below.setCell HBc.out (by rw [HBS.out]; exact Nat.le_refl _) u) (by rw [HBS.out]; exact Nat.le_refl _) v
                  have hzn : z + 2 ≤ n := by have h5 := HZ.out; omega
                  have hzx : sx + L = z := HZ.out.symm
                  rcases more_any (a := some ⟨b, off, none⟩) (n := n) (c := c) HS.out (z + 2) (t % 16) (by omega) (by omega) (by omega) with ⟨sy, M, hM, hy1, hy2, hM3, hcall⟩ | ⟨hM, hcall⟩
                  · have HLM := Lib.hid hM
                    have HCB : Hid (∀ u, Mem u .u8 (some ⟨b, off, none⟩) n c S → Calls Try.prog 15 #[.slice (some ⟨b, off, none⟩) n c, .int .i64 ((z : Int) + 2), .int .i64 ((t % 16 : Nat) : Int)] u fun e w' => e = .returned (.tuple #[.int .i64 (M : Int), .int .i64 (sy : Int), .bool true]) ∧ w' = u) := Lib.hid hcall
                    clear hM hcall
                    by_cases ho0 : o = 0
                    · have ho1 : ((o : Int) == 0) = true := by simp; omega
                      go_wp2_with (
                        go_at_call 15
                        refine Calls.mono (HCB.out _ ((HM.out.below HB.out).below HBc.out)) ?_
                        rintro e w3 ⟨rfl, rfl⟩)
                      go_ret2
                      have hb2 := hgr.out (.int .i64 (M : Int)) (.int .i64 ((M : Int) + 4))
                      refine ⟨pre, 1, _, ?_, rfl, HW.out.below hb2, HB.out.trans (hb2.mono HB.out.size), HNN.out⟩
                      have h5 := HR.out [] 1 (.matchBad t sx L (by omega) HT.out HL.out (by omega) (.inr ⟨by omega, o, by rw [hzx]; exact HO.out, .inl ho0⟩))
                      simpa using h5
                    · have ho1 : ((o : Int) == 0) = false := by simp; omega
                      have c0b := HSc.out.c0
                      have hbo : Hid (b < w.heap.size) := Lib.hid (World.block_lt_of_cell? w _ (HC.out si (by omega)))
                      have hgr3 := hgr
                      go_wp2_with (first
                        | (go_at_call 15
                           refine Calls.mono (HCB.out _ ((HM.out.below HB.out).below HBc.out)) ?_
                           rintro e w3 ⟨rfl, rfl⟩)
                        | (at_builtin
                           refine wpList_append_step (base := w.heap.size) (G := fun k => k < w.heap.size) (v := u4) (l := pre) (s := ⟨slit S sx L, o, M + 4⟩) (ad := some ⟨b, off + sx, none⟩) (c := c - sx) rfl (.tmp 113) (.tmp 115) rfl rfl
                             ((HW.out.below (hgr.out _ _)).below ((Below.refl _ _).alloc (Nat.le_refl _) _)) ⟨w3.heap.size, 0, none⟩ 1 rfl
                             (by rw [show stepVals ⟨slit S sx L, o, M + 4⟩ (some ⟨b, off + sx, none⟩) (c - sx) = (#[Value.slice (some ⟨b, off + sx, none⟩) L (c - sx), Value.int IntKind.i64 (o : Int), Value.int IntKind.i64 ((M : Int) + 4)] : Array Value).toList by simp [stepVals, slit_length]]; exact news_of_alloc (by simp) _ _)
                             (((mem_part2 HM.out (by omega) hcx).below (HB.out.trans ((hgr.out _ _).mono HB.out.size))).below ((Below.refl _ _).alloc (Nat.le_refl _) _))
                             (fun h6 p hp => by cases hp; exact ⟨fun h7 => by have h8 := (HW.out.lt _ h7.symm).1; have h9 := hbo.out; simp only at h8; omega, hbo.out⟩)
                             (by omega) (by have h5 := HLT.out; have h6 := HBS.out; have h7 := HBc.out.size; simp; omega) ?_
                           intro v9 w9 row9 hg9 hat9
                           have HW9 := Lib.hid row9
                           have HB9 := Lib.hid (((HB.out.trans ((hgr.out _ _).mono HB.out.size)).alloc (by have h5 := HLT.out; have h6 := HBS.out; have h7 := HBc.out.size; simp; omega) _).grown hg9 (by have h5 := HLT.out; have h6 := HBS.out; have h7 := HBc.out.size; simp; omega) (fun k hk => (HW.out.lt k hk).1))
                           clear row9 hg9 hat9))
                      refine ⟨⟨sy, pre ++ [⟨slit S sx L, o, M + 4⟩], by omega, by simp; omega, rfl, Lib.hid (fun l st hl => ?_), HW9, HB9, Lib.hid (HW9.out.ne (by simp))⟩, ?_⟩
                      · rw [List.append_assoc]
                        exact HR.out _ st (.next t sx L sy o (M + 4) (by omega) HT.out HL.out (by omega) (by rw [hzx]; exact HO.out) (by omega) (by rw [hzx]; exact lenOk_shift HLM.out) hl)
                      · show n - (sy : Int).toNat < n - (si : Int).toNat
                        omega
                  · have HLM := Lib.hid hM
                    have HCB : Hid (∀ u, Mem u .u8 (some ⟨b, off, none⟩) n c S → Calls Try.prog 15 #[.slice (some ⟨b, off, none⟩) n c, .int .i64 ((z : Int) + 2), .int .i64 ((t % 16 : Nat) : Int)] u fun e w' => (∃ x, e = .returned (.tuple #[.int .i64 x, .int .i64 (n : Int), .bool false])) ∧ w' = u) := Lib.hid hcall
                    clear hM hcall
                    go_wp2_with (
                      go_at_call 15
                      refine Calls.mono (HCB.out _ ((HM.out.below HB.out).below HBc.out)) ?_
                      rintro e w3 ⟨⟨x, rfl⟩, rfl⟩)
                    go_ret2
                    have hb2 := hgr.out
                    refine ⟨pre, 1, _, ?_, rfl, HW.out.below (hb2 _ _), HB.out.trans ((hb2 _ _).mono HB.out.size), HNN.out⟩
                    have h5 := HR.out [] 1 (.matchBad t sx L (by omega) HT.out HL.out (by omega) (.inr ⟨by omega, o, by rw [hzx]; exact HO.out, .inr (by rw [hzx]; exact lenBad_shift HLM.out)⟩))
                    simpa using h5
      · have HL := Lib.hid hL
        have HCA : Hid (∀ u, Mem u .u8 (some ⟨b, off, none⟩) n c S → Calls Try.prog 15 #[.slice (some ⟨b, off, none⟩) n c, .int .i64 ((si : Int) + 1), .int .i64 ((t : Int) / 16)] u fun e w' => (∃ x, e = .returned (.tuple #[.int .i64 x, .int .i64 (n : Int), .bool false])) ∧ w' = u) := Lib.hid hcall
        clear hL hcall
        go_wp2_with (
          go_at_call 15
          refine Calls.mono (HCA.out _ (HM.out.below HB.out)) ?_
          rintro e w2 ⟨⟨x, rfl⟩, rfl⟩)
        go_ret2
        exact ⟨pre, 1, _, by simpa using HR.out [] 1 (.litBad t (by omega) HT.out (.inl HL.out)), rfl, HW.out, HB.out, HNN.out⟩
/-- the answer, its slice opened -/
def StepsTold (w : World) (S : Nat → Int) (n : Nat) (e : Ending) (w' : World) : Prop :=
  ∃ l st g cap, Read S n 0 l st ∧ e = .returned (.tuple #[.slice (some ⟨g, 0, none⟩) l.length cap, .int .i64 (st : Int)]) ∧ l.length ≤ cap ∧ StepsMem w' g l ∧ Below w.heap.size w w'
theorem steps_told (a : Option Addr) (n c : Nat) (S : Nat → Int) (w : World) (hM : Mem w .u8 a n c S) (hS : ∀ i, 0 ≤ S i ∧ S i ≤ 255) (hn : n ≤ 1000) :
    Calls Try.prog 7 #[.slice a n c] w (StepsTold w S n) := by
  refine Calls.mono (steps7 a n c S w hM hS hn) ?_
  rintro e w' ⟨l, st, v, h1, rfl, h2, h3, h4⟩
  obtain ⟨g, cap, rfl, h5, h6⟩ := h2.mem2 h4
  exact ⟨l, st, g, cap, h1, rfl, h5, h6, h3⟩
end Go.Proofs.Ytkfkbbablgbfoaa
