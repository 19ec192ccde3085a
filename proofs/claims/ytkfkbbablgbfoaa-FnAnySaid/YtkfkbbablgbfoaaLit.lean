/-
  decodeBlockGo: the literals: the bytes that lengthen them, then the copy.
-/
import Derived.Test.YtkfkbbablgbfoaaCopy1
namespace Go.Proofs.Ytkfkbbablgbfoaa
open Go.RowKit
set_option linter.unusedVariables false
set_option maxHeartbeats 2000000
set_option maxRecDepth 100000
/-- one more byte of 255 -/
theorem ext1_more {g N sb so n dn dc rb : Nat} {da : Option Addr} {ds : List Deferred} {S : Nat → Int} {w : World} {Q : Exit → Act → World → Prop} {a : Act} {vb vm vo x18 x19 x20 : Value} (si di L : Nat) (hA : At g N sb so n dn dc rb da ds (.int .u64 ((si : Int))) (.int .u64 ((di : Int))) vb (.int .u64 ((L : Int))) vm vo x18 x19 x20 a)
    (hS : Src w sb so n S) (hn : n ≤ 1099511627776) (b3 : L ≤ 1125899906842624) (h1 : si < n) (h2 : S si = 255)
    (HN : Hid (∀ a', At g N sb so n dn dc rb da ds (.int .u64 (((si + 1 : Nat) : Int))) (.int .u64 ((di : Int))) vb (.int .u64 (((L + 255 : Nat) : Int))) vm vo x18 x19 x20 a' → Q .normal a' w)) :
    dExt1B.wp Try.prog Q a w := by
  obtain ⟨u, rfl⟩ := hA.opened
  clear hA
  conv => arg 2; whnf
  have c0 := hS.1 si h1
  rw [h2] at c0
  have l1 : (si : Int) < (n : Int) := by omega
  clear hS h2
  go_wp2
  exact HN.out _ ⟨rfl, rfl, rfl, rfl, rfl, rfl, rfl, rfl, rfl, rfl, rfl, rfl, rfl, rfl, rfl⟩
/-- the last byte that lengthens -/
theorem ext1_last {g N sb so n dn dc rb : Nat} {da : Option Addr} {ds : List Deferred} {S : Nat → Int} {w : World} {Q : Exit → Act → World → Prop} {a : Act} {vb vm vo x18 x19 x20 : Value} (si di L e : Nat) (hA : At g N sb so n dn dc rb da ds (.int .u64 ((si : Int))) (.int .u64 ((di : Int))) vb (.int .u64 ((L : Int))) vm vo x18 x19 x20 a)
    (hS : Src w sb so n S) (hn : n ≤ 1099511627776) (b3 : L ≤ 1125899906842624) (h1 : si < n) (h2 : S si = (e : Int)) (h3 : e < 255)
    (HN : Hid (∀ a', At g N sb so n dn dc rb da ds (.int .u64 (((si + 1 : Nat) : Int))) (.int .u64 ((di : Int))) vb (.int .u64 (((L + e : Nat) : Int))) vm vo x18 x19 x20 a' → Q (.exit 2) a' w)) :
    dExt1B.wp Try.prog Q a w := by
  obtain ⟨u, rfl⟩ := hA.opened
  clear hA
  conv => arg 2; whnf
  have c0 := hS.1 si h1
  rw [h2] at c0
  have l1 : (si : Int) < (n : Int) := by omega
  have d1 : decide ((e : Int) = 255) = false := by simp; omega
  clear hS h2
  go_wp2
  exact HN.out _ ⟨rfl, rfl, rfl, rfl, rfl, rfl, rfl, rfl, rfl, rfl, rfl, rfl, rfl, rfl, rfl⟩
/-- no byte is left -/
theorem ext1_dies {g N sb so n dn dc rb : Nat} {da : Option Addr} {ds : List Deferred} {w : World} {Q : Exit → Act → World → Prop} {a : Act} {vb vm vo x18 x19 x20 : Value} (si di L : Nat) (hA : At g N sb so n dn dc rb da ds (.int .u64 ((si : Int))) (.int .u64 ((di : Int))) vb (.int .u64 ((L : Int))) vm vo x18 x19 x20 a)
    (hn : n ≤ 1099511627776) (h1 : si = n) (HD : Hid (DiesTo Q ds rb g w)) :
    dExt1B.wp Try.prog Q a w := by
  obtain ⟨u, rfl⟩ := hA.opened
  clear hA
  conv => arg 2; whnf
  subst h1
  go_wp2
  obtain ⟨v, hv, hr⟩ := bounds_u64 (α := Value) (si : Int) (si : Int) .index
  rw [hr]
  simp only [Result.andThen, Oper.upon]
  exact HD.out v _ w hv rfl (World.grownBy.refl _ _)
/-- the bytes from si on lengthen by 255 k + e -/
def Ext (S : Nat → Int) (n si k e : Nat) : Prop := (∀ j, j < k → S (si + j) = 255) ∧ S (si + k) = (e : Int) ∧ e < 255 ∧ si + k < n
/-- the bytes from si on lengthen without end -/
def NoExt (S : Nat → Int) (n si : Nat) : Prop := ∀ j, si ≤ j → j < n → S j = 255
theorem ext1_ok {g N sb so n dn dc rb : Nat} {da : Option Addr} {ds : List Deferred} {S : Nat → Int} {w : World} {Q : Exit → Act → World → Prop} {a : Act} {vb vm vo x18 x19 x20 : Value} (si di L k e : Nat) (hA : At g N sb so n dn dc rb da ds (.int .u64 ((si : Int))) (.int .u64 ((di : Int))) vb (.int .u64 ((L : Int))) vm vo x18 x19 x20 a)
    (hS : Src w sb so n S) (hn : n ≤ 1099511627776) (b3 : L ≤ 255 * si) (h : Ext S n si k e)
    (HN : ∀ a', At g N sb so n dn dc rb da ds (.int .u64 (((si + k + 1 : Nat) : Int))) (.int .u64 ((di : Int))) vb (.int .u64 (((L + 255 * k + e : Nat) : Int))) vm vo x18 x19 x20 a' → Q .normal a' w) :
    dExt1.wp Try.prog Q a w := by
  show (Code.block 2 (.loop dExt1B)).wp Try.prog Q a w
  refine wp_block (wp_loop_rounds (k + 1) ?_)
  induction k generalizing si L a with
  | zero =>
    rw [rounds_succ]
    exact ext1_last si di L e hA hS hn (by obtain ⟨_, _, _, _⟩ := h; omega) (by obtain ⟨_, _, _, _⟩ := h; omega) (by obtain ⟨_, h2, _, _⟩ := h; exact h2) h.2.2.1
      (Lib.hid fun a' ha => by
        show Exit.inBlock 2 Q (.exit 2) a' w
        exact HN a' ha)
  | succ k ih =>
    rw [rounds_succ]
    obtain ⟨h1, h2, h3, h4⟩ := h
    exact ext1_more si di L hA hS hn (by omega) (by omega) (h1 0 (by omega))
      (Lib.hid fun a' ha => ih (si + 1) (L + 255) ha (by omega) ⟨fun j hj => by rw [show si + 1 + j = si + (j + 1) by omega]; exact h1 _ (by omega), by rw [show si + 1 + k = si + (k + 1) by omega]; exact h2, h3, by omega⟩
        fun a'' ha'' => HN a'' (by rw [show si + (k + 1) + 1 = si + 1 + k + 1 by omega, show L + 255 * (k + 1) + e = L + 255 + 255 * k + e by omega]; exact ha''))
theorem ext1_bad {g N sb so n dn dc rb : Nat} {da : Option Addr} {ds : List Deferred} {S : Nat → Int} {w : World} {Q : Exit → Act → World → Prop} {a : Act} {vb vm vo x18 x19 x20 : Value} (si di L k : Nat) (hA : At g N sb so n dn dc rb da ds (.int .u64 ((si : Int))) (.int .u64 ((di : Int))) vb (.int .u64 ((L : Int))) vm vo x18 x19 x20 a)
    (hS : Src w sb so n S) (hn : n ≤ 1099511627776) (b3 : L ≤ 255 * si) (hk : si + k = n) (h : NoExt S n si) (HD : Hid (DiesTo Q ds rb g w)) :
    dExt1.wp Try.prog Q a w := by
  show (Code.block 2 (.loop dExt1B)).wp Try.prog Q a w
  refine wp_block (wp_loop_rounds (k + 1) ?_)
  induction k generalizing si L a with
  | zero =>
    rw [rounds_succ]
    exact ext1_dies si di L hA hn (by omega) (Lib.hid fun v tm w' a b c => HD.out v tm w' a b c)
  | succ k ih =>
    rw [rounds_succ]
    exact ext1_more si di L hA hS hn (by omega) (by omega) (h si (by omega) (by omega))
      (Lib.hid fun a' ha => ih (si + 1) (L + 255) ha (by omega) (by omega) fun j h1 h2 => h j (by omega) h2)
/-- a length: the token's half, and the bytes that lengthen it -/
def LenOk (S : Nat → Int) (n si base lim si' L : Nat) : Prop := (base < lim ∧ L = base ∧ si' = si) ∨ (base = lim ∧ ∃ k e, Ext S n si k e ∧ L = lim + 255 * k + e ∧ si' = si + k + 1)
def LenBad (S : Nat → Int) (n si base lim : Nat) : Prop := base = lim ∧ NoExt S n si
theorem lit_head {g N sb so n dn dc rb : Nat} {da : Option Addr} {ds : List Deferred} {w : World} {Q : Exit → Act → World → Prop} {a : Act} {vL vm vo x18 x19 x20 : Value} (si di b : Nat) (hA : At g N sb so n dn dc rb da ds (.int .u64 ((si : Int))) (.int .u64 ((di : Int))) (.int .u64 ((b : Int))) vL vm vo x18 x19 x20 a) (hb : b < 256) (X : Code)
    (H0 : Hid (b / 16 = 0 → ∀ a', At g N sb so n dn dc rb da ds (.int .u64 ((si : Int))) (.int .u64 ((di : Int))) (.int .u64 ((b : Int))) (.int .u64 (((b / 16 : Nat) : Int))) vm vo x18 x19 x20 a' → Q .normal a' w))
    (H1 : Hid (0 < b / 16 → ∀ a', At g N sb so n dn dc rb da ds (.int .u64 ((si : Int))) (.int .u64 ((di : Int))) (.int .u64 ((b : Int))) (.int .u64 (((b / 16 : Nat) : Int))) vm vo x18 x19 x20 a' → X.wp Try.prog Q a' w)) :
    (Code.seq (seqL dLit) (.seq (seqL (seqR dLit)) (.cond (.tmp 52) X .skip))).wp Try.prog Q a w := by
  obtain ⟨u, rfl⟩ := hA.opened
  clear hA
  by_cases h0 : b / 16 = 0
  · have d0 : decide ((b : Int) / 16 > 0) = false := by simp; omega
    have H2 := H0.out h0
    clear H0 H1
    have H2 := Lib.hid H2
    refine wp_seq ?_
    conv => arg 2; whnf
    go_wp2
    conv => arg 2; whnf
    go_wp2
    exact ⟨rfl, rfl, rfl, rfl, rfl, rfl, rfl, rfl, rfl, rfl, rfl, rfl, rfl, rfl, rfl⟩
  · have d0 : decide ((b : Int) / 16 > 0) = true := by simp; omega
    have H2 := H1.out (by omega)
    clear H0 H1
    have H2 := Lib.hid H2
    refine wp_seq ?_
    conv => arg 2; whnf
    go_wp2
    conv => arg 2; whnf
    go_wp2
    exact H2.out _ ⟨rfl, rfl, rfl, rfl, rfl, rfl, rfl, rfl, rfl, rfl, rfl, rfl, rfl, rfl, rfl⟩
theorem lit_mid {g N sb so n dn dc rb : Nat} {da : Option Addr} {ds : List Deferred} {w : World} {Q : Exit → Act → World → Prop} {a : Act} {vb vm vo x18 x19 x20 : Value} (si di L : Nat) (hA : At g N sb so n dn dc rb da ds (.int .u64 ((si : Int))) (.int .u64 ((di : Int))) vb (.int .u64 ((L : Int))) vm vo x18 x19 x20 a) (hL : L < 256) (X Y : Code)
    (H0 : Hid (L < 15 → ∀ a', At g N sb so n dn dc rb da ds (.int .u64 ((si : Int))) (.int .u64 ((di : Int))) vb (.int .u64 ((L : Int))) vm vo x18 x19 x20 a' → Y.wp Try.prog Q a' w))
    (H1 : Hid (L = 15 → ∀ a', At g N sb so n dn dc rb da ds (.int .u64 ((si : Int))) (.int .u64 ((di : Int))) vb (.int .u64 ((L : Int))) vm vo x18 x19 x20 a' → X.wp Try.prog (Exit.then (Y.wp Try.prog Q) Q) a' w)) (hL2 : L ≤ 15) :
    (Code.seq (.seq (seqL (seqL dLitX)) (.cond (.tmp 54) X .skip)) Y).wp Try.prog Q a w := by
  obtain ⟨u, rfl⟩ := hA.opened
  clear hA
  refine wp_seq (wp_seq ?_)
  by_cases h0 : L = 15
  · have d0 : decide ((L : Int) = 15) = true := by simp; omega
    have H2 := H1.out h0
    clear H0 H1
    have H2 := Lib.hid H2
    conv => arg 2; whnf
    go_wp2
    exact H2.out _ ⟨rfl, rfl, rfl, rfl, rfl, rfl, rfl, rfl, rfl, rfl, rfl, rfl, rfl, rfl, rfl⟩
  · have d0 : decide ((L : Int) = 15) = false := by simp; omega
    have H2 := H0.out (by omega)
    clear H0 H1
    have H2 := Lib.hid H2
    conv => arg 2; whnf
    go_wp2
    exact H2.out _ ⟨rfl, rfl, rfl, rfl, rfl, rfl, rfl, rfl, rfl, rfl, rfl, rfl, rfl, rfl, rfl⟩
theorem dLit_eq : dLit = Code.seq (seqL dLit) (.seq (seqL (seqR dLit)) (.cond (.tmp 52) dLitX .skip)) := by kernel_rfl
theorem dLitX_eq : dLitX = Code.seq (.seq (seqL (seqL dLitX)) (.cond (.tmp 54) dExt1 .skip)) dCopy1 := by kernel_rfl
/-- the literals, where they are there and have room -/
theorem lit_ok {g N sb so n dn dc rb : Nat} {da : Option Addr} {ds : List Deferred} {S V : Nat → Int} {w : World} {Q : Exit → Act → World → Prop} {a : Act} {vL vm vo x18 x19 x20 : Value} (si di b si' L : Nat) (hA : At g N sb so n dn dc rb da ds (.int .u64 ((si : Int))) (.int .u64 ((di : Int))) (.int .u64 ((b : Int))) vL vm vo x18 x19 x20 a) (hb : b < 256)
    (hD : Dst w g N V) (hS : Src w sb so n S) (hn : n ≤ 1099511627776) (hN : N ≤ 1099511627776) (h0 : 1 ≤ si) (hL : LenOk S n si (b / 16) 15 si' L)
    (h1 : si' + L ≤ n) (h2 : di + L ≤ N) (h3 : 0 < L → L ≤ 16 → si' + 16 < n → di + 16 ≤ N)
    (HN : ∀ a' w' V', At g N sb so n dn dc rb da ds (.int .u64 (((si' + L : Nat) : Int))) (.int .u64 (((di + L : Nat) : Int))) (.int .u64 ((b : Int))) (.int .u64 ((L : Int))) vm vo x18 x19 x20 a' → Dst w' g N V' → w.grownBy w' (some g) →
      (∀ i, i < di → V' i = V i) → (∀ j, j < L → V' (di + j) = S (si' + j)) → Q .normal a' w') :
    dLit.wp Try.prog Q a w := by
  rw [dLit_eq]
  refine lit_head si di b hA hb dLitX (Lib.hid fun hz a' ha => ?_) (Lib.hid fun hp a' ha => ?_)
  · rcases hL with ⟨_, rfl, rfl⟩ | ⟨h, _⟩
    · have e : si' + b / 16 = si' := by omega
      have e2 : di + b / 16 = di := by omega
      exact HN a' w V (by rw [e, e2]; exact ha) hD (World.grownBy.refl _ _) (fun _ _ => rfl) (fun j hj => by omega)
    · omega
  · rw [dLitX_eq]
    refine lit_mid si di (b / 16) ha (by omega) dExt1 dCopy1 (Lib.hid fun hl a2 ha2 => ?_) (Lib.hid fun hl a2 ha2 => ?_) (by omega)
    · rcases hL with ⟨_, rfl, rfl⟩ | ⟨h, _⟩
      · exact copy1_ok si' di (b / 16) ha2 hD hS hn hN h1 h2 (h3 hp) (Lib.hid HN)
      · omega
    · rcases hL with ⟨h, _⟩ | ⟨_, k, e, hE, rfl, rfl⟩
      · omega
      · refine ext1_ok si di (b / 16) k e ha2 hS hn (by omega) hE fun a3 ha3 => ?_
        rw [hl] at ha3
        exact copy1_ok (si + k + 1) di (15 + 255 * k + e) ha3 hD hS hn hN h1 h2 (h3 (by omega)) (Lib.hid HN)
/-- the literals, where they are not there or have no room -/
theorem lit_bad {g N sb so n dn dc rb : Nat} {da : Option Addr} {ds : List Deferred} {S : Nat → Int} {w : World} {Q : Exit → Act → World → Prop} {a : Act} {vL vm vo x18 x19 x20 : Value} (si di b : Nat) (hA : At g N sb so n dn dc rb da ds (.int .u64 ((si : Int))) (.int .u64 ((di : Int))) (.int .u64 ((b : Int))) vL vm vo x18 x19 x20 a) (hb : b < 256)
    (hS : Src w sb so n S) (hn : n ≤ 1099511627776) (hN : N ≤ 1099511627776) (h0 : 1 ≤ si) (hsn : si ≤ n) (hdi : di ≤ N)
    (hL : LenBad S n si (b / 16) 15 ∨ ∃ si' L, LenOk S n si (b / 16) 15 si' L ∧ 0 < L ∧ (n < si' + L ∨ N < di + L ∨ (L ≤ 16 ∧ si' + 16 < n ∧ N < di + 16)))
    (HD : Hid (DiesTo Q ds rb g w)) :
    dLit.wp Try.prog Q a w := by
  rw [dLit_eq]
  refine lit_head si di b hA hb dLitX (Lib.hid fun hz a' ha => ?_) (Lib.hid fun hp a' ha => ?_)
  · rcases hL with ⟨h, _⟩ | ⟨si', L, ⟨_, rfl, rfl⟩ | ⟨h, _⟩, hpos, _⟩ <;> omega
  · rw [dLitX_eq]
    refine lit_mid si di (b / 16) ha (by omega) dExt1 dCopy1 (Lib.hid fun hl a2 ha2 => ?_) (Lib.hid fun hl a2 ha2 => ?_) (by omega)
    · rcases hL with ⟨h, _⟩ | ⟨si', L, ⟨_, rfl, rfl⟩ | ⟨h, _⟩, hpos, hbad⟩
      · omega
      · exact copy1_dies si' di (b / 16) ha2 hn hN (by omega) (by omega) (by omega) hbad HD
      · omega
    · rcases hL with ⟨_, h⟩ | ⟨si', L, ⟨h, _⟩ | ⟨_, k, e, hE, rfl, rfl⟩, hpos, hbad⟩
      · exact ext1_bad si di (b / 16) (n - si) ha2 hS hn (by omega) (by omega) h (Lib.hid fun v tm w' x y z => HD.out v tm w' x y z)
      · omega
      · have hE4 := hE.2.2.1
        have hE5 := hE.2.2.2
        refine ext1_ok si di (b / 16) k e ha2 hS hn (by omega) hE fun a3 ha3 => ?_
        rw [hl] at ha3
        exact copy1_dies (si + k + 1) di (15 + 255 * k + e) ha3 hn hN (by omega) (by omega) (by omega) hbad HD
end Go.Proofs.Ytkfkbbablgbfoaa
