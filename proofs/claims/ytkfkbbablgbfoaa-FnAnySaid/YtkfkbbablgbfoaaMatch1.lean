/-
  decodeBlockGo: the match's head: the end of the block, the offset, its length.
-/
import Derived.Test.YtkfkbbablgbfoaaLit
namespace Go.Proofs.Ytkfkbbablgbfoaa
open Go.RowKit
set_option linter.unusedVariables false
set_option maxHeartbeats 2000000
set_option maxRecDepth 100000
theorem and15n (b : Nat) (hb : b < 256) : bits .and .u64 (b : Int) 15 = ((b % 16 : Nat) : Int) := by rw [and15 _ (by omega)]; simp
/-- the end, where nothing is told behind the literals -/
theorem mhead_end {g N sb so n dn dc rb : Nat} {da : Option Addr} {ds : List Deferred} {w : World} {Q : Exit → Act → World → Prop} {a : Act} {vL vm vo x18 x19 x20 : Value} (si di b : Nat) (hA : At g N sb so n dn dc rb da ds (.int .u64 ((si : Int))) (.int .u64 ((di : Int))) (.int .u64 ((b : Int))) vL vm vo x18 x19 x20 a) (hb : b < 256) (X : Code)
    (hn : n ≤ 1099511627776) (h1 : si = n) (h2 : b % 16 = 0)
    (HN : Hid (∀ a', At g N sb so n dn dc rb da ds (.int .u64 ((si : Int))) (.int .u64 ((di : Int))) (.int .u64 ((b : Int))) vL (.int .u64 (((b % 16 : Nat) : Int))) vo x18 x19 x20 a' → Q (.exit 0) a' w)) :
    (Code.seq (seqL dMatch) (.seq (.seq (seqL (seqL (seqR dMatch))) (.cond (.tmp 120) (.exit 0) (condF (seqR (seqL (seqR dMatch)))))) X)).wp Try.prog Q a w := by
  obtain ⟨u, rfl⟩ := hA.opened
  clear hA
  have he := and15n b hb
  subst h1
  have d1 : decide ((si : Int) = (si : Int)) = true := by simp
  have d2 : ((b : Int) % 16 == 0) = true := by simp; omega
  clear h2
  refine wp_seq ?_
  conv => arg 2; whnf
  go_wp2
  conv => arg 2; whnf
  go_wp2
  first | exact HN.out _ ⟨rfl, rfl, rfl, rfl, rfl, rfl, rfl, rfl, rfl, rfl, rfl, rfl, rfl, rfl, rfl⟩ | exact ⟨rfl, rfl, rfl, rfl, rfl, rfl, rfl, rfl, rfl, rfl, rfl, rfl, rfl, rfl, rfl⟩
/-- the end, where a match is told and nothing stands behind it -/
theorem mhead_quit {g N sb so n dn dc rb : Nat} {da : Option Addr} {ds : List Deferred} {w : World} {Q : Exit → Act → World → Prop} {a : Act} {vL vm vo x18 x19 x20 : Value} (si di b : Nat) (hA : At g N sb so n dn dc rb da ds (.int .u64 ((si : Int))) (.int .u64 ((di : Int))) (.int .u64 ((b : Int))) vL vm vo x18 x19 x20 a) (hb : b < 256) (X : Code)
    (hn : n ≤ 1099511627776) (hR : Slot w rb) (h1 : si = n) (h2 : b % 16 ≠ 0) (HQ : Hid (QuitsTo Q ds rb g w)) :
    (Code.seq (seqL dMatch) (.seq (.seq (seqL (seqL (seqR dMatch))) (.cond (.tmp 120) (.exit 0) (condF (seqR (seqL (seqR dMatch)))))) X)).wp Try.prog Q a w := by
  obtain ⟨u, rfl⟩ := hA.opened
  clear hA
  have he := and15n b hb
  subst h1
  obtain ⟨⟨x, hc⟩, hz⟩ := hR
  have d1 : decide ((si : Int) = (si : Int)) = true := by simp
  have d2 : ((b : Int) % 16 == 0) = false := by simp; omega
  clear h2
  refine wp_seq ?_
  conv => arg 2; whnf
  go_wp2
  conv => arg 2; whnf
  go_wp2
  conv => arg 2; whnf
  go_wp2
  exact HQ.out _ w rfl (World.grownBy.refl _ _)
/-- the match is there -/
theorem mhead_on {g N sb so n dn dc rb : Nat} {da : Option Addr} {ds : List Deferred} {w : World} {Q : Exit → Act → World → Prop} {a : Act} {vL vm vo x18 x19 x20 : Value} (si di b : Nat) (hA : At g N sb so n dn dc rb da ds (.int .u64 ((si : Int))) (.int .u64 ((di : Int))) (.int .u64 ((b : Int))) vL vm vo x18 x19 x20 a) (hb : b < 256) (X : Code)
    (hn : n ≤ 1099511627776) (h1 : si < n)
    (HN : Hid (∀ a', At g N sb so n dn dc rb da ds (.int .u64 ((si : Int))) (.int .u64 ((di : Int))) (.int .u64 ((b : Int))) vL (.int .u64 (((b % 16 : Nat) : Int))) vo x18 x19 x20 a' → X.wp Try.prog Q a' w)) :
    (Code.seq (seqL dMatch) (.seq (.seq (seqL (seqL (seqR dMatch))) (.cond (.tmp 120) (.exit 0) (condF (seqR (seqL (seqR dMatch)))))) X)).wp Try.prog Q a w := by
  obtain ⟨u, rfl⟩ := hA.opened
  clear hA
  have he := and15n b hb
  have d1 : decide ((si : Int) = (n : Int)) = false := by simp; omega
  have l1 : (si : Int) < (n : Int) := by omega
  refine wp_seq ?_
  conv => arg 2; whnf
  go_wp2
  conv => arg 2; whnf
  go_wp2
  conv => arg 2; whnf
  go_wp2
  exact HN.out _ ⟨rfl, rfl, rfl, rfl, rfl, rfl, rfl, rfl, rfl, rfl, rfl, rfl, rfl, rfl, rfl⟩
/-- a byte of the offset is missing -/
theorem off_dies {g N sb so n dn dc rb : Nat} {da : Option Addr} {ds : List Deferred} {S : Nat → Int} {w : World} {Q : Exit → Act → World → Prop} {a : Act} {vL vb vo x18 x19 x20 : Value} (si di m : Nat) (hA : At g N sb so n dn dc rb da ds (.int .u64 ((si : Int))) (.int .u64 ((di : Int))) vb vL (.int .u64 ((m : Int))) vo x18 x19 x20 a) (hm : m < 16)
    (hS : Src w sb so n S) (hn : n ≤ 1099511627776) (h1 : si + 1 = n) (HD : Hid (DiesTo Q ds rb g w)) :
    dM2.wp Try.prog Q a w := by
  obtain ⟨u, rfl⟩ := hA.opened
  clear hA
  conv => arg 2; whnf
  have c0 := hS.1 si (by omega)
  have b0 := hS.2 si
  obtain ⟨A2, hA2, hA2'⟩ := slice_l (some ⟨sb, so, none⟩) n n si (si : Int) rfl (by omega) (by omega)
  have hA2' := hA2' sb so rfl (by omega)
  subst hA2'
  rw [show n - si = 1 by omega] at hA2
  go_wp2_with (go_at_call 26; refine Calls.mono (u16_dies sb (so + si) 1 (S si) w c0 b0) ?_; rintro e w' ⟨⟨v, hv, rfl⟩, m', rfl⟩)
  exact HD.out v _ _ hv rfl (grown_drewN (World.grownBy.refl _ _) _)
/-- the offset -/
theorem off_ok {g N sb so n dn dc rb : Nat} {da : Option Addr} {ds : List Deferred} {S : Nat → Int} {w : World} {Q : Exit → Act → World → Prop} {a : Act} {vL vb vo x18 x19 x20 : Value} (si di m : Nat) (hA : At g N sb so n dn dc rb da ds (.int .u64 ((si : Int))) (.int .u64 ((di : Int))) vb vL (.int .u64 ((m : Int))) vo x18 x19 x20 a) (hm : m < 16) (X : Code)
    (hS : Src w sb so n S) (hn : n ≤ 1099511627776) (h1 : si + 1 < n) (hR : Slot w rb) (o : Nat) (ho : S si + 256 * S (si + 1) = (o : Int))
    (HQ : Hid (o = 0 → QuitsTo Q ds rb g w))
    (HN : Hid (0 < o → ∀ a' w', At g N sb so n dn dc rb da ds (.int .u64 (((si + 2 : Nat) : Int))) (.int .u64 ((di : Int))) vb vL (.int .u64 (((m + 4 : Nat) : Int))) (.int .u64 ((o : Int))) x18 x19 x20 a' → (∃ k, w' = w.drewN k) → X.wp Try.prog Q a' w')) :
    (Code.seq (seqL dM2) (.seq (seqL (seqR dM2)) (.seq (seqL (seqR (seqR dM2))) (.seq (seqL (seqR (seqR (seqR dM2)))) X)))).wp Try.prog Q a w := by
  obtain ⟨u, rfl⟩ := hA.opened
  clear hA
  have c0 := hS.1 si (by omega)
  have c1 := hS.1 (si + 1) (by omega)
  have b0 := hS.2 si
  have b1 := hS.2 (si + 1)
  obtain ⟨A2, hA2, hA2'⟩ := slice_l (some ⟨sb, so, none⟩) n n si (si : Int) rfl (by omega) (by omega)
  have hA2' := hA2' sb so rfl (by omega)
  subst hA2'
  have hu := u16_ok sb (so + si) (n - si) (n - si) (S si) (S (si + 1)) w (by omega) c0 (by rw [← Nat.add_assoc] at c1; exact c1) b0 b1
  rw [ho] at hu
  obtain ⟨⟨x, hc⟩, hz⟩ := hR
  clear c0 c1 hS ho
  by_cases h0 : o = 0
  · have H2 := HQ.out h0
    subst h0
    clear HN HQ
    have H2 := Lib.hid H2
    refine wp_seq ?_
    conv => arg 2; whnf
    go_wp2
    conv => arg 2; whnf
    go_wp2_with (go_at_call 26; refine Calls.mono hu ?_; rintro e w' ⟨rfl, m', rfl⟩)
    conv => arg 2; whnf
    go_wp2
    exact H2.out _ _ rfl (grown_drewN (World.grownBy.refl _ _) _)
  · have H2 := HN.out (by omega)
    have d1 : decide ((o : Int) = 0) = false := by simp; omega
    clear HN HQ
    have H2 := Lib.hid H2
    refine wp_seq ?_
    conv => arg 2; whnf
    go_wp2
    conv => arg 2; whnf
    go_wp2_with (go_at_call 26; refine Calls.mono hu ?_; rintro e w' ⟨rfl, m', rfl⟩)
    conv => arg 2; whnf
    go_wp2
    conv => arg 2; whnf
    go_wp2
    exact H2.out _ _ ⟨rfl, rfl, rfl, rfl, rfl, rfl, rfl, rfl, rfl, rfl, rfl, rfl, rfl, rfl, rfl⟩ ⟨_, rfl⟩
theorem dMatch_eq : dMatch = Code.seq (seqL dMatch) (.seq (.seq (seqL (seqL (seqR dMatch))) (.cond (.tmp 120) (.exit 0) (condF (seqR (seqL (seqR dMatch)))))) dM2) := by kernel_rfl
theorem dM2_eq : dM2 = Code.seq (seqL dM2) (.seq (seqL (seqR dM2)) (.seq (seqL (seqR (seqR dM2))) (.seq (seqL (seqR (seqR (seqR dM2)))) (.seq dP1 dP2)))) := by kernel_rfl
end Go.Proofs.Ytkfkbbablgbfoaa
