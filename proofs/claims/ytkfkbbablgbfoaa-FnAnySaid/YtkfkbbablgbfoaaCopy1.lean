/-
  decodeBlockGo: the literals: the bytes that lengthen them, the copy, and where there is no room or they are not there.
-/
import Derived.Test.YtkfkbbablgbfoaaDec3
namespace Go.Proofs.Ytkfkbbablgbfoaa
open Go.RowKit
set_option linter.unusedVariables false
set_option maxHeartbeats 2000000
set_option maxRecDepth 100000
theorem copy1_ok {g N sb so n dn dc rb : Nat} {da : Option Addr} {ds : List Deferred} {S V : Nat → Int} {w : World} {Q : Exit → Act → World → Prop} {a : Act} {vb vm vo x18 x19 x20 : Value} (si di L : Nat) (hA : At g N sb so n dn dc rb da ds (.int .u64 ((si : Int))) (.int .u64 ((di : Int))) vb (.int .u64 ((L : Int))) vm vo x18 x19 x20 a)
    (hD : Dst w g N V) (hS : Src w sb so n S) (hn : n ≤ 1099511627776) (hN : N ≤ 1099511627776) (h1 : si + L ≤ n) (h2 : di + L ≤ N) (h3 : L ≤ 16 → si + 16 < n → di + 16 ≤ N)
    (HN : Hid (∀ a' w' V', At g N sb so n dn dc rb da ds (.int .u64 (((si + L : Nat) : Int))) (.int .u64 (((di + L : Nat) : Int))) vb (.int .u64 ((L : Int))) vm vo x18 x19 x20 a' → Dst w' g N V' → w.grownBy w' (some g) →
      (∀ i, i < di → V' i = V i) → (∀ j, j < L → V' (di + j) = S (si + j)) → Q .normal a' w')) :
    dCopy1.wp Try.prog Q a w := by
  obtain ⟨u, rfl⟩ := hA.opened
  clear hA
  conv => arg 2; whnf
  by_cases hs : L ≤ 16 ∧ si + 16 < n
  · obtain ⟨hs1, hs2⟩ := hs
    have h4 := h3 hs1 hs2
    obtain ⟨A1, hA1, hA1'⟩ := slice_lh (some ⟨g, 0, none⟩) N N di (di + 16) (di : Int) ((di : Int) + 16) rfl (by omega) (by omega) (by omega)
    obtain ⟨A2, hA2, hA2'⟩ := slice_lh (some ⟨sb, so, none⟩) n n si (si + 16) (si : Int) ((si : Int) + 16) rfl (by omega) (by omega) (by omega)
    simp only [Nat.add_sub_cancel_left] at hA1 hA2
    obtain ⟨w1, V1, hcp, hD1, hg1, hv1, hv2⟩ := copy_dst (m := 16) (dc2 := N - di) (sc := n - si) (E := fun j => S (si + j)) (A1 := A1) (A2 := A2) (dl := 16) (sl := 16) (off := di) hD rfl
      (fun _ => by simpa using hA1' g 0 rfl (by omega)) (fun _ => ⟨sb, so + si, hA2' sb so rfl (by omega), fun j hj => by rw [Nat.add_assoc]; exact hS.1 _ (by omega)⟩) (by omega)
    have HF := Lib.hid (And.intro hD1 (And.intro hg1 (And.intro hv1 hv2)))
    have d1 : decide ((L : Int) ≤ 16) = true := by simp; omega
    have d2 : decide ((si : Int) + 16 < (n : Int)) = true := by simp; omega
    clear hA1' hA2' hD1 hg1 hv1 hv2 h3 hD hS
    go_wp2
    refine wp_region_noPanic ?_
    go_region
    all_goals refine NoPanic.normal ?_
    all_goals go_wp2
    all_goals exact HN.out _ _ V1 ⟨rfl, rfl, rfl, rfl, rfl, rfl, rfl, rfl, rfl, rfl, rfl, rfl, rfl, rfl, rfl⟩ HF.out.1 HF.out.2.1 HF.out.2.2.1 (fun j hj => HF.out.2.2.2 j (by omega))
  · obtain ⟨A1, hA1, hA1'⟩ := slice_lh (some ⟨g, 0, none⟩) N N di (di + L) (di : Int) ((di : Int) + (L : Int)) rfl (by omega) (by omega) (by omega)
    obtain ⟨A2, hA2, hA2'⟩ := slice_lh (some ⟨sb, so, none⟩) n n si (si + L) (si : Int) ((si : Int) + (L : Int)) rfl (by omega) (by omega) (by omega)
    simp only [Nat.add_sub_cancel_left] at hA1 hA2
    obtain ⟨w1, V1, hcp, hD1, hg1, hv1, hv2⟩ := copy_dst (m := L) (dc2 := N - di) (sc := n - si) (E := fun j => S (si + j)) (A1 := A1) (A2 := A2) (dl := L) (sl := L) (off := di) hD (by omega)
      (fun h => by simpa using hA1' g 0 rfl (by omega)) (fun h => ⟨sb, so + si, hA2' sb so rfl (by omega), fun j hj => by rw [Nat.add_assoc]; exact hS.1 _ (by omega)⟩) (by omega)
    have HF := Lib.hid (And.intro hD1 (And.intro hg1 (And.intro hv1 hv2)))
    have hk : (∃ d1 : decide ((L : Int) ≤ 16) = true, decide ((si : Int) + 16 < (n : Int)) = false) ∨ decide ((L : Int) ≤ 16) = false := by
      by_cases h : L ≤ 16
      · exact Or.inl ⟨by simp; omega, by simp; omega⟩
      · exact Or.inr (by simp; omega)
    clear hA1' hA2' hD1 hg1 hv1 hv2 h3 hD hS hs
    rcases hk with ⟨d1, d2⟩ | d1
    all_goals
      go_wp2
      refine wp_region_noPanic ?_
      go_region
      all_goals refine NoPanic.normal ?_
      all_goals go_wp2
      all_goals exact HN.out _ _ V1 ⟨rfl, rfl, rfl, rfl, rfl, rfl, rfl, rfl, rfl, rfl, rfl, rfl, rfl, rfl, rfl⟩ HF.out.1 HF.out.2.1 HF.out.2.2.1 HF.out.2.2.2
theorem copy1_dies {g N sb so n dn dc rb : Nat} {da : Option Addr} {ds : List Deferred} {w : World} {Q : Exit → Act → World → Prop} {a : Act} {vb vm vo x18 x19 x20 : Value} (si di L : Nat) (hA : At g N sb so n dn dc rb da ds (.int .u64 ((si : Int))) (.int .u64 ((di : Int))) vb (.int .u64 ((L : Int))) vm vo x18 x19 x20 a)
    (hn : n ≤ 1099511627776) (hN : N ≤ 1099511627776) (b1 : si ≤ 2199023255552) (b2 : di ≤ 2199023255552) (b3 : L ≤ 1125899906842624)
    (hbad : n < si + L ∨ N < di + L ∨ (L ≤ 16 ∧ si + 16 < n ∧ N < di + 16))
    (HD : Hid (DiesTo Q ds rb g w)) :
    dCopy1.wp Try.prog Q a w := by
  obtain ⟨u, rfl⟩ := hA.opened
  clear hA
  conv => arg 2; whnf
  have HG := grown_drew1 w (some g)
  by_cases hs : L ≤ 16 ∧ si + 16 < n
  · obtain ⟨hs1, hs2⟩ := hs
    obtain ⟨v, hv, hA1⟩ := slice_lh_out (some ⟨g, 0, none⟩) N N (di : Int) ((di : Int) + 16) (by omega)
    obtain ⟨A2, hA2, hA2'⟩ := slice_lh (some ⟨sb, so, none⟩) n n si (si + 16) (si : Int) ((si : Int) + 16) rfl (by omega) (by omega) (by omega)
    have d1 : decide ((L : Int) ≤ 16) = true := by simp; omega
    have d2 : decide ((si : Int) + 16 < (n : Int)) = true := by simp; omega
    clear hA2' hbad
    go_wp2
    have e1 := wrap_u64 ((di : Int) + 16) (by omega) (by omega)
    have e2 := wrap_u64 ((si : Int) + 16) (by omega) (by omega)
    refine wp_calm (R := Raises w g) (p := .pointer (some ⟨rb, 0, none⟩)) (ds := ds) ?_ (calm_dies HD.out)
    refine wp_region_any (by kernel_rfl) ?_
    (try (change wpAny _ _ _ _ _ _ _ (World.drew _)))
    refine wpAny_take (i := 0) (v := ?_) rfl (by kernel_rfl) (by kernel_rfl) (by kernel_rfl) (Calm.keep (by decide)) (Or.inl ⟨by rfl, ?_⟩) ?_
    rotate_left 1
    · (intro w; go_simp <;> with_reducible rfl)
    refine wpAny_take (i := 1) (v := ?_) rfl (by kernel_rfl) (by kernel_rfl) (by kernel_rfl) (Calm.keep (by decide)) (Or.inl ⟨by rfl, ?_⟩) ?_
    rotate_left 1
    · (intro w; go_simp <;> with_reducible rfl)
    refine wpAny_take (i := 2) (v := ?_) rfl (by kernel_rfl) (by kernel_rfl) (by kernel_rfl) (Calm.keep (by decide)) (Or.inl ⟨by rfl, ?_⟩) ?_
    rotate_left 1
    · (intro w; go_simp <;> with_reducible rfl)
    refine wpAny_take (i := 3) (v := ?_) rfl (by kernel_rfl) (by kernel_rfl) (by kernel_rfl) (Calm.keep (by decide)) (Or.inl ⟨by rfl, ?_⟩) ?_
    rotate_left 1
    · (intro w; go_simp <;> with_reducible rfl)
    refine wpAny_take (i := 5) (v := ?_) rfl (by kernel_rfl) (by kernel_rfl) (by kernel_rfl) (Calm.keep (by decide)) (Or.inl ⟨by rfl, ?_⟩) ?_
    rotate_left 1
    · (intro w; go_simp <;> with_reducible rfl)
    refine wpAny_take (i := 6) (v := ?_) rfl (by kernel_rfl) (by kernel_rfl) (by kernel_rfl) (Calm.keep (by decide)) (Or.inl ⟨by rfl, ?_⟩) ?_
    rotate_left 1
    · (intro w; go_simp <;> with_reducible rfl)
    refine wpAny_take (i := 7) (v := ?_) rfl (by kernel_rfl) (by kernel_rfl) (by kernel_rfl) (Calm.keep (by decide)) (Or.inl ⟨by rfl, ?_⟩) ?_
    rotate_left 1
    · (intro w; go_simp <;> with_reducible rfl)
    refine wpAny_take (i := 8) (v := ?_) rfl (by kernel_rfl) (by kernel_rfl) (by kernel_rfl) (Calm.keep (by decide)) (Or.inl ⟨by rfl, ?_⟩) ?_
    rotate_left 1
    · (intro w; go_simp <;> with_reducible rfl)
    refine wpAny_take (i := 9) (v := ?_) rfl (by kernel_rfl) (by kernel_rfl) (by kernel_rfl) (Calm.keep (by decide)) (Or.inl ⟨by rfl, ?_⟩) ?_
    rotate_left 1
    · (intro w; go_simp <;> with_reducible rfl)
    refine wpAny_ready (rs := [4]) (by kernel_rfl) (by simp) ?_
    refine AllReady.cons rfl (fun K hK => ?_) ?_
    · go_simp
      exact ⟨⟨_, hv, rfl, HG⟩, rfl, rfl⟩
    exact AllReady.nil
  · have hk : (∃ d1 : decide ((L : Int) ≤ 16) = true, decide ((si : Int) + 16 < (n : Int)) = false) ∨ decide ((L : Int) ≤ 16) = false := by
      by_cases h : L ≤ 16
      · exact Or.inl ⟨by simp; omega, by simp; omega⟩
      · exact Or.inr (by simp; omega)
    have e1 := wrap_u64 ((di : Int) + (L : Int)) (by omega) (by omega)
    have e2 := wrap_u64 ((si : Int) + (L : Int)) (by omega) (by omega)
    by_cases hd : N < di + L
    · obtain ⟨v, hv, hA1⟩ := slice_lh_out (some ⟨g, 0, none⟩) N N (di : Int) ((di : Int) + (L : Int)) (by omega)
      by_cases hd2 : n < si + L
      · obtain ⟨v2, hv2, hA2⟩ := slice_lh_out (some ⟨sb, so, none⟩) n n (si : Int) ((si : Int) + (L : Int)) (by omega)
        clear hbad hs
        rcases hk with ⟨d1, d2⟩ | d1
        all_goals go_wp2
        all_goals
          refine wp_calm (R := Raises w g) (p := .pointer (some ⟨rb, 0, none⟩)) (ds := ds) ?_ (calm_dies HD.out)
          refine wp_region_any (by kernel_rfl) ?_
          (try (change wpAny _ _ _ _ _ _ _ (World.drew _)))
          refine wpAny_take (i := 0) (v := ?_) rfl (by kernel_rfl) (by kernel_rfl) (by kernel_rfl) (Calm.keep (by decide)) (Or.inl ⟨by rfl, ?_⟩) ?_
          rotate_left 1
          · (intro w; go_simp <;> with_reducible rfl)
          refine wpAny_take (i := 1) (v := ?_) rfl (by kernel_rfl) (by kernel_rfl) (by kernel_rfl) (Calm.keep (by decide)) (Or.inl ⟨by rfl, ?_⟩) ?_
          rotate_left 1
          · (intro w; go_simp <;> with_reducible rfl)
          refine wpAny_take (i := 2) (v := ?_) rfl (by kernel_rfl) (by kernel_rfl) (by kernel_rfl) (Calm.keep (by decide)) (Or.inl ⟨by rfl, ?_⟩) ?_
          rotate_left 1
          · (intro w; go_simp <;> with_reducible rfl)
          refine wpAny_take (i := 3) (v := ?_) rfl (by kernel_rfl) (by kernel_rfl) (by kernel_rfl) (Calm.keep (by decide)) (Or.inl ⟨by rfl, ?_⟩) ?_
          rotate_left 1
          · (intro w; go_simp <;> with_reducible rfl)
          refine wpAny_take (i := 4) (v := ?_) rfl (by kernel_rfl) (by kernel_rfl) (by kernel_rfl) (Calm.keep (by decide)) (Or.inl ⟨by rfl, ?_⟩) ?_
          rotate_left 1
          · (intro w; go_simp <;> with_reducible rfl)
          refine wpAny_take (i := 6) (v := ?_) rfl (by kernel_rfl) (by kernel_rfl) (by kernel_rfl) (Calm.keep (by decide)) (Or.inl ⟨by rfl, ?_⟩) ?_
          rotate_left 1
          · (intro w; go_simp <;> with_reducible rfl)
          refine wpAny_take (i := 7) (v := ?_) rfl (by kernel_rfl) (by kernel_rfl) (by kernel_rfl) (Calm.keep (by decide)) (Or.inl ⟨by rfl, ?_⟩) ?_
          rotate_left 1
          · (intro w; go_simp <;> with_reducible rfl)
          refine wpAny_take (i := 8) (v := ?_) rfl (by kernel_rfl) (by kernel_rfl) (by kernel_rfl) (Calm.keep (by decide)) (Or.inl ⟨by rfl, ?_⟩) ?_
          rotate_left 1
          · (intro w; go_simp <;> with_reducible rfl)
          refine wpAny_take (i := 9) (v := ?_) rfl (by kernel_rfl) (by kernel_rfl) (by kernel_rfl) (Calm.keep (by decide)) (Or.inl ⟨by rfl, ?_⟩) ?_
          rotate_left 1
          · (intro w; go_simp <;> with_reducible rfl)
          refine wpAny_take (i := 10) (v := ?_) rfl (by kernel_rfl) (by kernel_rfl) (by kernel_rfl) (Calm.keep (by decide)) (Or.inl ⟨by rfl, ?_⟩) ?_
          rotate_left 1
          · (intro w; go_simp <;> with_reducible rfl)
          refine wpAny_ready (rs := [5, 11]) (by kernel_rfl) (by simp) ?_
          refine AllReady.cons rfl (fun K hK => ?_) ?_
          · go_simp
            exact ⟨⟨_, hv, rfl, HG⟩, rfl, rfl⟩
          refine AllReady.cons rfl (fun K hK => ?_) ?_
          · go_simp
            exact ⟨⟨_, hv2, rfl, HG⟩, rfl, rfl⟩
          exact AllReady.nil
      · obtain ⟨A2, hA2, hA2'⟩ := slice_lh (some ⟨sb, so, none⟩) n n si (si + L) (si : Int) ((si : Int) + (L : Int)) rfl (by omega) (by omega) (by omega)
        clear hA2' hbad hs
        rcases hk with ⟨d1, d2⟩ | d1
        all_goals go_wp2
        all_goals
          refine wp_calm (R := Raises w g) (p := .pointer (some ⟨rb, 0, none⟩)) (ds := ds) ?_ (calm_dies HD.out)
          refine wp_region_any (by kernel_rfl) ?_
          (try (change wpAny _ _ _ _ _ _ _ (World.drew _)))
          refine wpAny_take (i := 0) (v := ?_) rfl (by kernel_rfl) (by kernel_rfl) (by kernel_rfl) (Calm.keep (by decide)) (Or.inl ⟨by rfl, ?_⟩) ?_
          rotate_left 1
          · (intro w; go_simp <;> with_reducible rfl)
          refine wpAny_take (i := 1) (v := ?_) rfl (by kernel_rfl) (by kernel_rfl) (by kernel_rfl) (Calm.keep (by decide)) (Or.inl ⟨by rfl, ?_⟩) ?_
          rotate_left 1
          · (intro w; go_simp <;> with_reducible rfl)
          refine wpAny_take (i := 2) (v := ?_) rfl (by kernel_rfl) (by kernel_rfl) (by kernel_rfl) (Calm.keep (by decide)) (Or.inl ⟨by rfl, ?_⟩) ?_
          rotate_left 1
          · (intro w; go_simp <;> with_reducible rfl)
          refine wpAny_take (i := 3) (v := ?_) rfl (by kernel_rfl) (by kernel_rfl) (by kernel_rfl) (Calm.keep (by decide)) (Or.inl ⟨by rfl, ?_⟩) ?_
          rotate_left 1
          · (intro w; go_simp <;> with_reducible rfl)
          refine wpAny_take (i := 4) (v := ?_) rfl (by kernel_rfl) (by kernel_rfl) (by kernel_rfl) (Calm.keep (by decide)) (Or.inl ⟨by rfl, ?_⟩) ?_
          rotate_left 1
          · (intro w; go_simp <;> with_reducible rfl)
          refine wpAny_take (i := 6) (v := ?_) rfl (by kernel_rfl) (by kernel_rfl) (by kernel_rfl) (Calm.keep (by decide)) (Or.inl ⟨by rfl, ?_⟩) ?_
          rotate_left 1
          · (intro w; go_simp <;> with_reducible rfl)
          refine wpAny_take (i := 7) (v := ?_) rfl (by kernel_rfl) (by kernel_rfl) (by kernel_rfl) (Calm.keep (by decide)) (Or.inl ⟨by rfl, ?_⟩) ?_
          rotate_left 1
          · (intro w; go_simp <;> with_reducible rfl)
          refine wpAny_take (i := 8) (v := ?_) rfl (by kernel_rfl) (by kernel_rfl) (by kernel_rfl) (Calm.keep (by decide)) (Or.inl ⟨by rfl, ?_⟩) ?_
          rotate_left 1
          · (intro w; go_simp <;> with_reducible rfl)
          refine wpAny_take (i := 9) (v := ?_) rfl (by kernel_rfl) (by kernel_rfl) (by kernel_rfl) (Calm.keep (by decide)) (Or.inl ⟨by rfl, ?_⟩) ?_
          rotate_left 1
          · (intro w; go_simp <;> with_reducible rfl)
          refine wpAny_take (i := 10) (v := ?_) rfl (by kernel_rfl) (by kernel_rfl) (by kernel_rfl) (Calm.keep (by decide)) (Or.inl ⟨by rfl, ?_⟩) ?_
          rotate_left 1
          · (intro w; go_simp <;> with_reducible rfl)
          refine wpAny_take (i := 11) (v := ?_) rfl (by kernel_rfl) (by kernel_rfl) (by kernel_rfl) (Calm.keep (by decide)) (Or.inl ⟨by rfl, ?_⟩) ?_
          rotate_left 1
          · (intro w; go_simp <;> with_reducible rfl)
          refine wpAny_ready (rs := [5]) (by kernel_rfl) (by simp) ?_
          refine AllReady.cons rfl (fun K hK => ?_) ?_
          · go_simp
            exact ⟨⟨_, hv, rfl, HG⟩, rfl, rfl⟩
          exact AllReady.nil
    · obtain ⟨A1, hA1, hA1'⟩ := slice_lh (some ⟨g, 0, none⟩) N N di (di + L) (di : Int) ((di : Int) + (L : Int)) rfl (by omega) (by omega) (by omega)
      obtain ⟨v2, hv2, hA2⟩ := slice_lh_out (some ⟨sb, so, none⟩) n n (si : Int) ((si : Int) + (L : Int)) (by omega)
      clear hA1' hbad hs
      rcases hk with ⟨d1, d2⟩ | d1
      all_goals go_wp2
      all_goals
        refine wp_calm (R := Raises w g) (p := .pointer (some ⟨rb, 0, none⟩)) (ds := ds) ?_ (calm_dies HD.out)
        refine wp_region_any (by kernel_rfl) ?_
        (try (change wpAny _ _ _ _ _ _ _ (World.drew _)))
        refine wpAny_take (i := 0) (v := ?_) rfl (by kernel_rfl) (by kernel_rfl) (by kernel_rfl) (Calm.keep (by decide)) (Or.inl ⟨by rfl, ?_⟩) ?_
        rotate_left 1
        · (intro w; go_simp <;> with_reducible rfl)
        refine wpAny_take (i := 1) (v := ?_) rfl (by kernel_rfl) (by kernel_rfl) (by kernel_rfl) (Calm.keep (by decide)) (Or.inl ⟨by rfl, ?_⟩) ?_
        rotate_left 1
        · (intro w; go_simp <;> with_reducible rfl)
        refine wpAny_take (i := 2) (v := ?_) rfl (by kernel_rfl) (by kernel_rfl) (by kernel_rfl) (Calm.keep (by decide)) (Or.inl ⟨by rfl, ?_⟩) ?_
        rotate_left 1
        · (intro w; go_simp <;> with_reducible rfl)
        refine wpAny_take (i := 3) (v := ?_) rfl (by kernel_rfl) (by kernel_rfl) (by kernel_rfl) (Calm.keep (by decide)) (Or.inl ⟨by rfl, ?_⟩) ?_
        rotate_left 1
        · (intro w; go_simp <;> with_reducible rfl)
        refine wpAny_take (i := 4) (v := ?_) rfl (by kernel_rfl) (by kernel_rfl) (by kernel_rfl) (Calm.keep (by decide)) (Or.inl ⟨by rfl, ?_⟩) ?_
        rotate_left 1
        · (intro w; go_simp <;> with_reducible rfl)
        refine wpAny_take (i := 5) (v := ?_) rfl (by kernel_rfl) (by kernel_rfl) (by kernel_rfl) (Calm.keep (by decide)) (Or.inl ⟨by rfl, ?_⟩) ?_
        rotate_left 1
        · (intro w; go_simp <;> with_reducible rfl)
        refine wpAny_take (i := 6) (v := ?_) rfl (by kernel_rfl) (by kernel_rfl) (by kernel_rfl) (Calm.keep (by decide)) (Or.inl ⟨by rfl, ?_⟩) ?_
        rotate_left 1
        · (intro w; go_simp <;> with_reducible rfl)
        refine wpAny_take (i := 7) (v := ?_) rfl (by kernel_rfl) (by kernel_rfl) (by kernel_rfl) (Calm.keep (by decide)) (Or.inl ⟨by rfl, ?_⟩) ?_
        rotate_left 1
        · (intro w; go_simp <;> with_reducible rfl)
        refine wpAny_take (i := 8) (v := ?_) rfl (by kernel_rfl) (by kernel_rfl) (by kernel_rfl) (Calm.keep (by decide)) (Or.inl ⟨by rfl, ?_⟩) ?_
        rotate_left 1
        · (intro w; go_simp <;> with_reducible rfl)
        refine wpAny_take (i := 9) (v := ?_) rfl (by kernel_rfl) (by kernel_rfl) (by kernel_rfl) (Calm.keep (by decide)) (Or.inl ⟨by rfl, ?_⟩) ?_
        rotate_left 1
        · (intro w; go_simp <;> with_reducible rfl)
        refine wpAny_take (i := 10) (v := ?_) rfl (by kernel_rfl) (by kernel_rfl) (by kernel_rfl) (Calm.keep (by decide)) (Or.inl ⟨by rfl, ?_⟩) ?_
        rotate_left 1
        · (intro w; go_simp <;> with_reducible rfl)
        refine wpAny_ready (rs := [11]) (by kernel_rfl) (by simp) ?_
        refine AllReady.cons rfl (fun K hK => ?_) ?_
        · go_simp
          exact ⟨⟨_, hv2, rfl, HG⟩, rfl, rfl⟩
        exact AllReady.nil
end Go.Proofs.Ytkfkbbablgbfoaa
