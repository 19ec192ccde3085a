/-
  decodeBlockGo: the match: the short way, and the bytes that lengthen it.
-/
import Derived.Test.YtkfkbbablgbfoaaMatch1
namespace Go.Proofs.Ytkfkbbablgbfoaa
open Go.RowKit
set_option linter.unusedVariables false
set_option maxHeartbeats 2000000
set_option maxRecDepth 100000
/-- the short way: sixteen bytes at once -/
theorem p1_short {g N sb so n dn dc rb : Nat} {da : Option Addr} {ds : List Deferred} {V : Nat → Int} {w : World} {Q : Exit → Act → World → Prop} {a : Act} {vb vL x18 x19 x20 : Value} (si di m o : Nat) (hA : At g N sb so n dn dc rb da ds (.int .u64 ((si : Int))) (.int .u64 ((di : Int))) vb vL (.int .u64 ((m : Int))) (.int .u64 ((o : Int))) x18 x19 x20 a)
    (hD : Dst w g N V) (hN : N ≤ 1099511627776) (h1 : m ≤ 16) (h2 : m ≤ o) (h3 : o < di) (h4 : di + 16 ≤ N)
    (HN : Hid (∀ a' w' V', At g N sb so n dn dc rb da ds (.int .u64 ((si : Int))) (.int .u64 (((di + m : Nat) : Int))) vb vL (.int .u64 ((m : Int))) (.int .u64 ((o : Int))) x18 x19 x20 a' → Dst w' g N V' → w.grownBy w' (some g) →
      (∀ i, i < di → V' i = V i) → (∀ j, j < m → V' (di + j) = V (di - o + j)) → Q (.exit 1) a' w')) :
    dP1.wp Try.prog Q a w := by
  obtain ⟨u, rfl⟩ := hA.opened
  clear hA
  conv => arg 2; whnf
  obtain ⟨A1, hA1, hA1'⟩ := slice_lh (some ⟨g, 0, none⟩) N N di (di + 16) (di : Int) ((di : Int) + 16) rfl (by omega) (by omega) (by omega)
  obtain ⟨A2, hA2, hA2'⟩ := slice_lh (some ⟨g, 0, none⟩) N N (di - o) (di - o + 16) ((di : Int) - (o : Int)) ((di : Int) - (o : Int) + 16) (by omega) (by omega) (by omega) (by omega)
  simp only [Nat.add_sub_cancel_left] at hA1 hA2
  obtain ⟨w1, V1, hcp, hD1, hg1, hv1, hv2⟩ := copy_dst (m := 16) (dc2 := N - di) (sc := N - (di - o)) (E := fun j => V (di - o + j)) (A1 := A1) (A2 := A2) (dl := 16) (sl := 16) (off := di) hD rfl
    (fun _ => by simpa using hA1' g 0 rfl (by omega)) (fun _ => ⟨g, di - o, by simpa using hA2' g 0 rfl (by omega), fun j hj => hD.cell (by omega)⟩) (by omega)
  have HF := Lib.hid (And.intro hD1 (And.intro hg1 (And.intro hv1 hv2)))
  have d1 : decide ((m : Int) ≤ 16) = true := by simp; omega
  have d2 : decide ((m : Int) ≤ (o : Int)) = true := by simp; omega
  have d3 : decide ((o : Int) < (di : Int)) = true := by simp; omega
  have d4 : decide ((di : Int) + 16 ≤ (N : Int)) = true := by simp; omega
  clear hA1' hA2' hD1 hg1 hv1 hv2 hD
  go_wp2
  refine wp_region_noPanic ?_
  go_region
  all_goals refine NoPanic.normal ?_
  all_goals go_wp2
  all_goals exact HN.out _ _ V1 ⟨rfl, rfl, rfl, rfl, rfl, rfl, rfl, rfl, rfl, rfl, rfl, rfl, rfl, rfl, rfl⟩ HF.out.1 HF.out.2.1 HF.out.2.2.1 (fun j hj => HF.out.2.2.2 j (by omega))
/-- no short way, nothing that lengthens -/
theorem p1_skip {g N sb so n dn dc rb : Nat} {da : Option Addr} {ds : List Deferred} {w : World} {Q : Exit → Act → World → Prop} {a : Act} {vb vL x18 x19 x20 : Value} (si di m o : Nat) (hA : At g N sb so n dn dc rb da ds (.int .u64 ((si : Int))) (.int .u64 ((di : Int))) vb vL (.int .u64 ((m : Int))) (.int .u64 ((o : Int))) x18 x19 x20 a)
    (hN : N ≤ 1099511627776) (b2 : di ≤ 2199023255552) (h1 : (m ≤ 16 ∧ ¬ (m ≤ o ∧ o < di ∧ di + 16 ≤ N)) ∨ (16 < m ∧ m < 19))
    (HN : Hid (∀ a', At g N sb so n dn dc rb da ds (.int .u64 ((si : Int))) (.int .u64 ((di : Int))) vb vL (.int .u64 ((m : Int))) (.int .u64 ((o : Int))) x18 x19 x20 a' → Q .normal a' w)) :
    dP1.wp Try.prog Q a w := by
  obtain ⟨u, rfl⟩ := hA.opened
  clear hA
  conv => arg 2; whnf
  rcases h1 with ⟨h1, h2⟩ | ⟨h1, h2⟩
  · have d1 : decide ((m : Int) ≤ 16) = true := by simp; omega
    by_cases k1 : m ≤ o
    · have d2 : decide ((m : Int) ≤ (o : Int)) = true := by simp; omega
      by_cases k2 : o < di
      · have d3 : decide ((o : Int) < (di : Int)) = true := by simp; omega
        have d4 : decide ((di : Int) + 16 ≤ (N : Int)) = false := by simp; omega
        clear h2
        go_wp2
        first | exact HN.out _ ⟨rfl, rfl, rfl, rfl, rfl, rfl, rfl, rfl, rfl, rfl, rfl, rfl, rfl, rfl, rfl⟩ | exact ⟨rfl, rfl, rfl, rfl, rfl, rfl, rfl, rfl, rfl, rfl, rfl, rfl, rfl, rfl, rfl⟩
      · have d3 : decide ((o : Int) < (di : Int)) = false := by simp; omega
        clear h2
        go_wp2
        first | exact HN.out _ ⟨rfl, rfl, rfl, rfl, rfl, rfl, rfl, rfl, rfl, rfl, rfl, rfl, rfl, rfl, rfl⟩ | exact ⟨rfl, rfl, rfl, rfl, rfl, rfl, rfl, rfl, rfl, rfl, rfl, rfl, rfl, rfl, rfl⟩
    · have d2 : decide ((m : Int) ≤ (o : Int)) = false := by simp; omega
      clear h2
      go_wp2
      first | exact HN.out _ ⟨rfl, rfl, rfl, rfl, rfl, rfl, rfl, rfl, rfl, rfl, rfl, rfl, rfl, rfl, rfl⟩ | exact ⟨rfl, rfl, rfl, rfl, rfl, rfl, rfl, rfl, rfl, rfl, rfl, rfl, rfl, rfl, rfl⟩
  · have d1 : decide ((m : Int) ≤ 16) = false := by simp; omega
    have d2 : decide ((m : Int) ≥ 19) = false := by simp; omega
    clear h1 h2
    go_wp2
    first | exact HN.out _ ⟨rfl, rfl, rfl, rfl, rfl, rfl, rfl, rfl, rfl, rfl, rfl, rfl, rfl, rfl, rfl⟩ | exact ⟨rfl, rfl, rfl, rfl, rfl, rfl, rfl, rfl, rfl, rfl, rfl, rfl, rfl, rfl, rfl⟩
/-- the length is told on -/
theorem p1_long {g N sb so n dn dc rb : Nat} {da : Option Addr} {ds : List Deferred} {w : World} {Q : Exit → Act → World → Prop} {a : Act} {vb vL x18 x19 x20 : Value} (si di m o : Nat) (hA : At g N sb so n dn dc rb da ds (.int .u64 ((si : Int))) (.int .u64 ((di : Int))) vb vL (.int .u64 ((m : Int))) (.int .u64 ((o : Int))) x18 x19 x20 a) (h1 : m = 19) (X Y : Code)
    (HN : Hid (∀ a', At g N sb so n dn dc rb da ds (.int .u64 ((si : Int))) (.int .u64 ((di : Int))) vb vL (.int .u64 ((m : Int))) (.int .u64 ((o : Int))) x18 x19 x20 a' → X.wp Try.prog Q a' w)) :
    (Code.seq (seqL dP1) (.cond (.tmp 137) Y (.seq (seqL (condF (seqR dP1))) (.cond (.tmp 172) X .skip)))).wp Try.prog Q a w := by
  obtain ⟨u, rfl⟩ := hA.opened
  clear hA
  have d1 : decide ((m : Int) ≤ 16) = false := by simp; omega
  have d2 : decide ((m : Int) ≥ 19) = true := by simp; omega
  clear h1
  refine wp_seq ?_
  conv => arg 2; whnf
  go_wp2
  conv => arg 2; whnf
  go_wp2
  first | exact HN.out _ ⟨rfl, rfl, rfl, rfl, rfl, rfl, rfl, rfl, rfl, rfl, rfl, rfl, rfl, rfl, rfl⟩ | exact ⟨rfl, rfl, rfl, rfl, rfl, rfl, rfl, rfl, rfl, rfl, rfl, rfl, rfl, rfl, rfl⟩
theorem dP1_eq : dP1 = Code.seq (seqL dP1) (.cond (.tmp 137) (condT (seqR dP1)) (.seq (seqL (condF (seqR dP1))) (.cond (.tmp 172) dExt2 .skip))) := by kernel_rfl
/-- one more byte of 255 -/
theorem ext2_more {g N sb so n dn dc rb : Nat} {da : Option Addr} {ds : List Deferred} {S : Nat → Int} {w : World} {Q : Exit → Act → World → Prop} {a : Act} {vb vl vo x18 x19 x20 : Value} (si di L : Nat) (hA : At g N sb so n dn dc rb da ds (.int .u64 ((si : Int))) (.int .u64 ((di : Int))) vb vl (.int .u64 ((L : Int))) vo x18 x19 x20 a)
    (hS : Src w sb so n S) (hn : n ≤ 1099511627776) (b3 : L ≤ 1125899906842624) (h1 : si < n) (h2 : S si = 255)
    (HN : Hid (∀ a', At g N sb so n dn dc rb da ds (.int .u64 (((si + 1 : Nat) : Int))) (.int .u64 ((di : Int))) vb vl (.int .u64 (((L + 255 : Nat) : Int))) vo x18 x19 x20 a' → Q .normal a' w)) :
    dExt2B.wp Try.prog Q a w := by
  obtain ⟨u, rfl⟩ := hA.opened
  clear hA
  conv => arg 2; whnf
  have c0 := hS.1 si h1
  rw [h2] at c0
  have l1 : (si : Int) < (n : Int) := by omega
  clear hS h2
  go_wp2
  exact HN.out _ ⟨rfl, rfl, rfl, rfl, rfl, rfl, rfl, rfl, rfl, rfl, rfl, rfl, rfl, rfl, rfl⟩
/-- the last byte that lengthens -/
theorem ext2_last {g N sb so n dn dc rb : Nat} {da : Option Addr} {ds : List Deferred} {S : Nat → Int} {w : World} {Q : Exit → Act → World → Prop} {a : Act} {vb vl vo x18 x19 x20 : Value} (si di L e : Nat) (hA : At g N sb so n dn dc rb da ds (.int .u64 ((si : Int))) (.int .u64 ((di : Int))) vb vl (.int .u64 ((L : Int))) vo x18 x19 x20 a)
    (hS : Src w sb so n S) (hn : n ≤ 1099511627776) (b3 : L ≤ 1125899906842624) (h1 : si < n) (h2 : S si = (e : Int)) (h3 : e < 255)
    (HN : Hid (∀ a', At g N sb so n dn dc rb da ds (.int .u64 (((si + 1 : Nat) : Int))) (.int .u64 ((di : Int))) vb vl (.int .u64 (((L + e : Nat) : Int))) vo x18 x19 x20 a' → Q (.exit 4) a' w)) :
    dExt2B.wp Try.prog Q a w := by
  obtain ⟨u, rfl⟩ := hA.opened
  clear hA
  conv => arg 2; whnf
  have c0 := hS.1 si h1
  rw [h2] at c0
  have l1 : (si : Int) < (n : Int) := by omega
  have d1 : decide ((e : Int) = 255) = false := by simp; omega
  clear hS h2
  go_wp2
  exact HN.out _ ⟨rfl, rfl, rfl, rfl, rfl, rfl, rfl, rfl, rfl, rfl, rfl, rfl, rfl, rfl, rfl⟩
/-- no byte is left -/
theorem ext2_dies {g N sb so n dn dc rb : Nat} {da : Option Addr} {ds : List Deferred} {w : World} {Q : Exit → Act → World → Prop} {a : Act} {vb vl vo x18 x19 x20 : Value} (si di L : Nat) (hA : At g N sb so n dn dc rb da ds (.int .u64 ((si : Int))) (.int .u64 ((di : Int))) vb vl (.int .u64 ((L : Int))) vo x18 x19 x20 a)
    (hn : n ≤ 1099511627776) (h1 : si = n) (HD : Hid (DiesTo Q ds rb g w)) :
    dExt2B.wp Try.prog Q a w := by
  obtain ⟨u, rfl⟩ := hA.opened
  clear hA
  conv => arg 2; whnf
  subst h1
  go_wp2
  obtain ⟨v, hv, hr⟩ := bounds_u64 (α := Value) (si : Int) (si : Int) .index
  rw [hr]
  simp only [Result.andThen, Oper.upon]
  exact HD.out v _ w hv rfl (World.grownBy.refl _ _)
theorem ext2_ok {g N sb so n dn dc rb : Nat} {da : Option Addr} {ds : List Deferred} {S : Nat → Int} {w : World} {Q : Exit → Act → World → Prop} {a : Act} {vb vl vo x18 x19 x20 : Value} (si di L k e : Nat) (hA : At g N sb so n dn dc rb da ds (.int .u64 ((si : Int))) (.int .u64 ((di : Int))) vb vl (.int .u64 ((L : Int))) vo x18 x19 x20 a)
    (hS : Src w sb so n S) (hn : n ≤ 1099511627776) (b3 : L ≤ 255 * si) (h : Ext S n si k e)
    (HN : ∀ a', At g N sb so n dn dc rb da ds (.int .u64 (((si + k + 1 : Nat) : Int))) (.int .u64 ((di : Int))) vb vl (.int .u64 (((L + 255 * k + e : Nat) : Int))) vo x18 x19 x20 a' → Q .normal a' w) :
    dExt2.wp Try.prog Q a w := by
  show (Code.block 4 (.loop dExt2B)).wp Try.prog Q a w
  refine wp_block (wp_loop_rounds (k + 1) ?_)
  induction k generalizing si L a with
  | zero =>
    rw [rounds_succ]
    exact ext2_last si di L e hA hS hn (by obtain ⟨_, _, _, _⟩ := h; omega) (by obtain ⟨_, _, _, _⟩ := h; omega) (by obtain ⟨_, h2, _, _⟩ := h; exact h2) h.2.2.1
      (Lib.hid fun a' ha => by
        show Exit.inBlock 4 Q (.exit 4) a' w
        exact HN a' ha)
  | succ k ih =>
    rw [rounds_succ]
    obtain ⟨h1, h2, h3, h4⟩ := h
    exact ext2_more si di L hA hS hn (by omega) (by omega) (h1 0 (by omega))
      (Lib.hid fun a' ha => ih (si + 1) (L + 255) ha (by omega) ⟨fun j hj => by rw [show si + 1 + j = si + (j + 1) by omega]; exact h1 _ (by omega), by rw [show si + 1 + k = si + (k + 1) by omega]; exact h2, h3, by omega⟩
        fun a'' ha'' => HN a'' (by rw [show si + (k + 1) + 1 = si + 1 + k + 1 by omega, show L + 255 * (k + 1) + e = L + 255 + 255 * k + e by omega]; exact ha''))
theorem ext2_bad {g N sb so n dn dc rb : Nat} {da : Option Addr} {ds : List Deferred} {S : Nat → Int} {w : World} {Q : Exit → Act → World → Prop} {a : Act} {vb vl vo x18 x19 x20 : Value} (si di L k : Nat) (hA : At g N sb so n dn dc rb da ds (.int .u64 ((si : Int))) (.int .u64 ((di : Int))) vb vl (.int .u64 ((L : Int))) vo x18 x19 x20 a)
    (hS : Src w sb so n S) (hn : n ≤ 1099511627776) (b3 : L ≤ 255 * si) (hk : si + k = n) (h : NoExt S n si) (HD : Hid (DiesTo Q ds rb g w)) :
    dExt2.wp Try.prog Q a w := by
  show (Code.block 4 (.loop dExt2B)).wp Try.prog Q a w
  refine wp_block (wp_loop_rounds (k + 1) ?_)
  induction k generalizing si L a with
  | zero =>
    rw [rounds_succ]
    exact ext2_dies si di L hA hn (by omega) (Lib.hid fun v tm w' a b c => HD.out v tm w' a b c)
  | succ k ih =>
    rw [rounds_succ]
    exact ext2_more si di L hA hS hn (by omega) (by omega) (h si (by omega) (by omega))
      (Lib.hid fun a' ha => ih (si + 1) (L + 255) ha (by omega) (by omega) fun j h1 h2 => h j (by omega) h2)
end Go.Proofs.Ytkfkbbablgbfoaa
