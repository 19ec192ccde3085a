/-
  decodeBlockGo: the match: what it takes from the dictionary.
-/
import Derived.Test.YtkfkbbablgbfoaaMatch2
namespace Go.Proofs.Ytkfkbbablgbfoaa
open Go.RowKit
set_option linter.unusedVariables false
set_option maxHeartbeats 2000000
set_option maxRecDepth 100000
/-- nothing from the dictionary -/
theorem dict_no {g N sb so n dn dc rb : Nat} {da : Option Addr} {ds : List Deferred} {w : World} {Q : Exit → Act → World → Prop} {a : Act} {vb vL x18 x19 x20 : Value} (si di m o : Nat) (hA : At g N sb so n dn dc rb da ds (.int .u64 ((si : Int))) (.int .u64 ((di : Int))) vb vL (.int .u64 ((m : Int))) (.int .u64 ((o : Int))) x18 x19 x20 a) (h1 : o ≤ di)
    (HN : Hid (∀ a', At g N sb so n dn dc rb da ds (.int .u64 ((si : Int))) (.int .u64 ((di : Int))) vb vL (.int .u64 ((m : Int))) (.int .u64 ((o : Int))) x18 x19 x20 a' → Q .normal a' w)) :
    dDict.wp Try.prog Q a w := by
  obtain ⟨u, rfl⟩ := hA.opened
  clear hA
  conv => arg 2; whnf
  have d1 : ¬ di < o := by omega
  clear h1
  go_wp2
  first | exact HN.out _ ⟨rfl, rfl, rfl, rfl, rfl, rfl, rfl, rfl, rfl, rfl, rfl, rfl, rfl, rfl, rfl⟩ | exact ⟨rfl, rfl, rfl, rfl, rfl, rfl, rfl, rfl, rfl, rfl, rfl, rfl, rfl, rfl, rfl⟩
/-- the dictionary is too short -/
theorem dict_short {g N sb so n dn dc rb : Nat} {da : Option Addr} {ds : List Deferred} {w : World} {Q : Exit → Act → World → Prop} {a : Act} {vb vL x18 x19 x20 : Value} (si di m o : Nat) (hA : At g N sb so n dn dc rb da ds (.int .u64 ((si : Int))) (.int .u64 ((di : Int))) vb vL (.int .u64 ((m : Int))) (.int .u64 ((o : Int))) x18 x19 x20 a) (h1 : dn + di < o) (ho : o < 65536)
    (hdn : dn ≤ 1099511627776) (HD : Hid (DiesTo Q ds rb g w)) :
    dDict.wp Try.prog Q a w := by
  obtain ⟨u, rfl⟩ := hA.opened
  clear hA
  conv => arg 2; whnf
  have d1 : di < o := by omega
  have hw : IntKind.u64.wrap ((dn : Int) + (di : Int) - (o : Int)) = (dn : Int) + (di : Int) - (o : Int) + 18446744073709551616 := by
    simp [IntKind.wrap, IntKind.bits, IntKind.signed]
    omega
  obtain ⟨v, hv, hA1⟩ := slice_l_out da dn dc ((dn : Int) + (di : Int) - (o : Int) + 18446744073709551616) (by omega)
  have hb : di < 65536 := by omega
  clear h1
  go_wp2
  exact HD.out v _ w hv rfl (World.grownBy.refl _ _)
/-- the dictionary serves, but there is no room -/
theorem dict_full {g N sb so n dn dc rb : Nat} {da : Option Addr} {ds : List Deferred} {w : World} {Q : Exit → Act → World → Prop} {a : Act} {vb vL x18 x19 x20 : Value} (si di m o : Nat) (hA : At g N sb so n dn dc rb da ds (.int .u64 ((si : Int))) (.int .u64 ((di : Int))) vb vL (.int .u64 ((m : Int))) (.int .u64 ((o : Int))) x18 x19 x20 a) (h1 : di < o) (h2 : o ≤ dn + di) (ho : o < 65536)
    (hdn : dn ≤ 1099511627776) (hdc : dn ≤ dc) (hN : N ≤ 1099511627776) (hm : m ≤ 1125899906842624) (h3 : N < di + m) (HD : Hid (DiesTo Q ds rb g w)) :
    dDict.wp Try.prog Q a w := by
  obtain ⟨u, rfl⟩ := hA.opened
  clear hA
  conv => arg 2; whnf
  have d1 : di < o := by omega
  obtain ⟨A1, hA1, hA1'⟩ := slice_l da dn dc (dn + di - o) ((dn : Int) + (di : Int) - (o : Int)) (by omega) (by omega) (by omega)
  obtain ⟨v, hv, hA2⟩ := slice_lh_out (some ⟨g, 0, none⟩) N N (di : Int) ((di : Int) + (m : Int)) (by omega)
  have hb : di < 65536 := by omega
  clear hA1'
  go_wp2
  exact HD.out v _ w hv rfl (World.grownBy.refl _ _)
/-- the dictionary serves -/
theorem dict_ok {g N sb so n dn dc rb : Nat} {da : Option Addr} {ds : List Deferred} {V : Nat → Int} {w : World} {Q : Exit → Act → World → Prop} {a : Act} {D : Nat → Int} {vb vL x18 x19 x20 : Value} (si di m o : Nat) (hA : At g N sb so n dn dc rb da ds (.int .u64 ((si : Int))) (.int .u64 ((di : Int))) vb vL (.int .u64 ((m : Int))) (.int .u64 ((o : Int))) x18 x19 x20 a) (h1 : di < o) (h2 : o ≤ dn + di) (ho : o < 65536)
    (hdn : dn ≤ 1099511627776) (hdc : dn ≤ dc) (hN : N ≤ 1099511627776) (hm : m ≤ 1125899906842624) (h3 : di + m ≤ N) (hD : Dst w g N V) (hC : Dct w da dn g D) (hm0 : 0 < m)
    (H0 : Hid (m ≤ o - di → ∀ a' w' V', At g N sb so n dn dc rb da ds (.int .u64 ((si : Int))) (.int .u64 (((di + m : Nat) : Int))) vb vL (.int .u64 ((0 : Int))) (.int .u64 ((o : Int))) x18 x19 x20 a' → Dst w' g N V' → w.grownBy w' (some g) →
      (∀ i, i < di → V' i = V i) → (∀ j, j < m → V' (di + j) = D (dn + di - o + j)) → Q (.exit 1) a' w'))
    (H1 : Hid (o - di < m → ∀ a' w' V', At g N sb so n dn dc rb da ds (.int .u64 ((si : Int))) (.int .u64 ((o : Int))) vb vL (.int .u64 (((m - (o - di) : Nat) : Int))) (.int .u64 ((o : Int))) x18 x19 x20 a' → Dst w' g N V' → w.grownBy w' (some g) →
      (∀ i, i < di → V' i = V i) → (∀ j, j < o - di → V' (di + j) = D (dn + di - o + j)) → Q .normal a' w')) :
    dDict.wp Try.prog Q a w := by
  obtain ⟨u, rfl⟩ := hA.opened
  clear hA
  conv => arg 2; whnf
  have d1 : di < o := by omega
  obtain ⟨A1, hA1, hA1'⟩ := slice_l da dn dc (dn + di - o) ((dn : Int) + (di : Int) - (o : Int)) (by omega) (by omega) (by omega)
  obtain ⟨A2, hA2, hA2'⟩ := slice_lh (some ⟨g, 0, none⟩) N N di (di + m) (di : Int) ((di : Int) + (m : Int)) rfl (by omega) (by omega) (by omega)
  simp only [Nat.add_sub_cancel_left] at hA2
  have hb : di < 65536 := by omega
  have hlen : dn - (dn + di - o) = o - di := by omega
  rw [hlen] at hA1
  obtain ⟨b, d, hda, hbg, hcs⟩ := hC (by omega)
  by_cases hq : m ≤ o - di
  · obtain ⟨w1, V1, hcp, hD1, hg1, hv1, hv2⟩ := copy_dst0 (m := m) (dc2 := N - di) (sc := dc - (dn + di - o)) (E := fun j => D (dn + di - o + j)) (A1 := A2) (A2 := A1) (dl := m) (sl := o - di) (off := di) hD (by omega)
      (fun h => by simpa using hA2' g 0 rfl (by omega)) (fun h => ⟨b, d + (dn + di - o), hA1' b d hda (by omega), fun j hj => by rw [Nat.add_assoc]; exact hcs _ (by omega)⟩) (by omega)
    have HF := Lib.hid (And.intro hD1 (And.intro hg1 (And.intro hv1 hv2)))
    have H2 := H0.out hq
    have H2 := Lib.hid H2
    clear hA1' hA2' hD1 hg1 hv1 hv2 hD H0 H1 hcs hda
    go_wp2
    exact H2.out _ _ V1 ⟨rfl, rfl, rfl, rfl, rfl, rfl, rfl, rfl, rfl, rfl, rfl, rfl, rfl, rfl, rfl⟩ HF.out.1 HF.out.2.1 HF.out.2.2.1 HF.out.2.2.2
  · obtain ⟨w1, V1, hcp, hD1, hg1, hv1, hv2⟩ := copy_dst0 (m := o - di) (dc2 := N - di) (sc := dc - (dn + di - o)) (E := fun j => D (dn + di - o + j)) (A1 := A2) (A2 := A1) (dl := m) (sl := o - di) (off := di) hD (by omega)
      (fun h => by simpa using hA2' g 0 rfl (by omega)) (fun h => ⟨b, d + (dn + di - o), hA1' b d hda (by omega), fun j hj => by rw [Nat.add_assoc]; exact hcs _ (by omega)⟩) (by omega)
    have HF := Lib.hid (And.intro hD1 (And.intro hg1 (And.intro hv1 hv2)))
    have H2 := H1.out (by omega)
    have H2 := Lib.hid H2
    clear hA1' hA2' hD1 hg1 hv1 hv2 hD H0 H1 hcs hda
    go_wp2
    have e1 : (di : Int) + ((o - di : Nat) : Int) = (o : Int) := by omega
    have e2 : (m : Int) - ((o - di : Nat) : Int) = ((m - (o - di) : Nat) : Int) := by omega
    rw [e1, e2]
    exact H2.out _ _ V1 ⟨rfl, rfl, rfl, rfl, rfl, rfl, rfl, rfl, rfl, rfl, rfl, rfl, rfl, rfl, rfl⟩ HF.out.1 HF.out.2.1 HF.out.2.2.1 HF.out.2.2.2
end Go.Proofs.Ytkfkbbablgbfoaa
