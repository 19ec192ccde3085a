/-
  decodeBlockGo: the match: what it takes from the bytes unpacked before: the bytes that repeat themselves.
-/
import Derived.Test.YtkfkbbablgbfoaaMatch3
namespace Go.Proofs.Ytkfkbbablgbfoaa
open Go.RowKit
set_option linter.unusedVariables false
set_option maxHeartbeats 2000000
set_option maxRecDepth 100000
/-- 'expanded' -/
theorem exp_ok {g N sb so n dn dc rb : Nat} {da : Option Addr} {ds : List Deferred} {w : World} {Q : Exit → Act → World → Prop} {a : Act} {vb vL x18 x19 x20 : Value} (si di m o : Nat) (hA : At g N sb so n dn dc rb da ds (.int .u64 ((si : Int))) (.int .u64 ((di : Int))) vb vL (.int .u64 ((m : Int))) (.int .u64 ((o : Int))) x18 x19 x20 a) (h1 : o ≤ di) (h0 : 0 < o) (h2 : di ≤ N) (hN : N ≤ 1099511627776)
    (HN : Hid (∀ a', At g N sb so n dn dc rb da ds (.int .u64 ((si : Int))) (.int .u64 ((di : Int))) vb vL (.int .u64 ((m : Int))) (.int .u64 ((o : Int))) (.slice (some ⟨g, di - o, none⟩) (N - (di - o)) (N - (di - o))) x19 x20 a' → Q .normal a' w)) :
    dExp.wp Try.prog Q a w := by
  obtain ⟨u, rfl⟩ := hA.opened
  clear hA
  conv => arg 2; whnf
  obtain ⟨A1, hA1, hA1'⟩ := slice_l (some ⟨g, 0, none⟩) N N (di - o) ((di : Int) - (o : Int)) (by omega) (by omega) (by omega)
  have hA1' := hA1' g 0 rfl (by omega)
  rw [Nat.zero_add] at hA1'
  subst hA1'
  go_wp2
  first | exact HN.out _ ⟨rfl, rfl, rfl, rfl, rfl, rfl, rfl, rfl, rfl, rfl, rfl, rfl, rfl, rfl, rfl⟩ | exact ⟨rfl, rfl, rfl, rfl, rfl, rfl, rfl, rfl, rfl, rfl, rfl, rfl, rfl, rfl, rfl⟩
/-- one round of the loop that doubles: it goes on -/
theorem dbl_more {g N sb so n dn dc rb : Nat} {da : Option Addr} {ds : List Deferred} {V : Nat → Int} {w : World} {Q : Exit → Act → World → Prop} {a : Act} {vb vL : Value} (si di m o e t q : Nat) (hA : At g N sb so n dn dc rb da ds (.int .u64 ((si : Int))) (.int .u64 ((di : Int))) vb vL (.int .u64 ((m : Int))) (.int .u64 ((o : Int))) (.slice (some ⟨g, e, none⟩) (N - e) (N - e)) (.int .u64 ((t : Int))) (.int .u64 ((q : Int))) a)
    (hD : Dst w g N V) (hN : N ≤ 1099511627776) (hm : t ≤ 1125899906842624) (ho : o < 65536) (he : e ≤ N) (h1 : q ≤ t + o) (h2 : q ≤ N - e)
    (HN : Hid (∀ a' w' V', At g N sb so n dn dc rb da ds (.int .u64 ((si : Int))) (.int .u64 ((di : Int))) vb vL (.int .u64 ((m : Int))) (.int .u64 ((o : Int))) (.slice (some ⟨g, e, none⟩) (N - e) (N - e)) (.int .u64 ((t : Int))) (.int .u64 (((q * 2 : Nat) : Int))) a' → Dst w' g N V' → w.grownBy w' (some g) →
      (∀ i, i < e + q → V' i = V i) → (∀ j, j < min q (N - e - q) → V' (e + q + j) = V (e + j)) → Q .normal a' w')) :
    dDblB.wp Try.prog Q a w := by
  obtain ⟨u, rfl⟩ := hA.opened
  clear hA
  conv => arg 2; whnf
  obtain ⟨A1, hA1, hA1'⟩ := slice_l (some ⟨g, e, none⟩) (N - e) (N - e) q (q : Int) rfl (by omega) (by omega)
  obtain ⟨A2, hA2, hA2'⟩ := slice_h (some ⟨g, e, none⟩) (N - e) (N - e) q (q : Int) rfl (by omega)
  obtain ⟨w1, V1, hcp, hD1, hg1, hv1, hv2⟩ := copy_dst (m := min q (N - e - q)) (dc2 := N - e - q) (sc := N - e) (E := fun j => V (e + j)) (A1 := A1) (A2 := A2) (dl := N - e - q) (sl := q) (off := e + q) hD (by omega)
    (fun h => hA1' g e rfl (by omega)) (fun h => ⟨g, e, hA2' (by omega), fun j hj => hD.cell (by omega)⟩) (by omega)
  have HF := Lib.hid (And.intro hD1 (And.intro hg1 (And.intro hv1 hv2)))
  clear hA1' hA2' hD1 hg1 hv1 hv2 hD
  go_wp2
  refine wp_region_noPanic ?_
  go_region
  all_goals refine NoPanic.normal ?_
  all_goals go_wp2
  all_goals exact HN.out _ _ V1 ⟨rfl, rfl, rfl, rfl, rfl, rfl, rfl, rfl, rfl, rfl, rfl, rfl, rfl, rfl, rfl⟩ HF.out.1 HF.out.2.1 HF.out.2.2.1 HF.out.2.2.2
/-- the loop that doubles ends -/
theorem dbl_end {g N sb so n dn dc rb : Nat} {da : Option Addr} {ds : List Deferred} {w : World} {Q : Exit → Act → World → Prop} {a : Act} {vb vL x18 : Value} (si di m o t q : Nat) (hA : At g N sb so n dn dc rb da ds (.int .u64 ((si : Int))) (.int .u64 ((di : Int))) vb vL (.int .u64 ((m : Int))) (.int .u64 ((o : Int))) x18 (.int .u64 ((t : Int))) (.int .u64 ((q : Int))) a)
    (hm : t ≤ 1125899906842624) (ho : o < 65536) (h1 : t + o < q)
    (HN : Hid (∀ a', At g N sb so n dn dc rb da ds (.int .u64 ((si : Int))) (.int .u64 ((di : Int))) vb vL (.int .u64 ((m : Int))) (.int .u64 ((o : Int))) x18 (.int .u64 ((t : Int))) (.int .u64 ((q : Int))) a' → Q (.exit 6) a' w)) :
    dDblB.wp Try.prog Q a w := by
  obtain ⟨u, rfl⟩ := hA.opened
  clear hA
  conv => arg 2; whnf
  have d1 : decide ((q : Int) ≤ (t : Int) + (o : Int)) = false := by simp; omega
  go_wp2
  first | exact HN.out _ ⟨rfl, rfl, rfl, rfl, rfl, rfl, rfl, rfl, rfl, rfl, rfl, rfl, rfl, rfl, rfl⟩ | exact ⟨rfl, rfl, rfl, rfl, rfl, rfl, rfl, rfl, rfl, rfl, rfl, rfl, rfl, rfl, rfl⟩
/-- there is no room -/
theorem dbl_dies {g N sb so n dn dc rb : Nat} {da : Option Addr} {ds : List Deferred} {w : World} {Q : Exit → Act → World → Prop} {a : Act} {vb vL : Value} (si di m o e t q : Nat) (hA : At g N sb so n dn dc rb da ds (.int .u64 ((si : Int))) (.int .u64 ((di : Int))) vb vL (.int .u64 ((m : Int))) (.int .u64 ((o : Int))) (.slice (some ⟨g, e, none⟩) (N - e) (N - e)) (.int .u64 ((t : Int))) (.int .u64 ((q : Int))) a)
    (hN : N ≤ 1099511627776) (hm : t ≤ 1125899906842624) (ho : o < 65536) (he : e ≤ N) (h1 : q ≤ t + o) (h2 : N - e < q) (HD : Hid (DiesTo Q ds rb g w)) :
    dDblB.wp Try.prog Q a w := by
  obtain ⟨u, rfl⟩ := hA.opened
  clear hA
  conv => arg 2; whnf
  have HG := grown_drew1 w (some g)
  obtain ⟨v, hv, hA1⟩ := slice_l_out (some ⟨g, e, none⟩) (N - e) (N - e) (q : Int) (by omega)
  obtain ⟨v2, hv2, hA2⟩ := slice_h_out (some ⟨g, e, none⟩) (N - e) (N - e) (q : Int) (by omega)
  go_wp2
  refine wp_calm (R := Raises w g) (p := .pointer (some ⟨rb, 0, none⟩)) (ds := ds) ?_ (calm_dies HD.out)
  refine wp_region_any (by kernel_rfl) ?_
  (try (change wpAny _ _ _ _ _ _ _ (World.drew _)))
  refine wpAny_take (i := 0) (v := ?_) rfl (by kernel_rfl) (by kernel_rfl) (by kernel_rfl) (Calm.keep (by decide)) (Or.inl ⟨by rfl, ?_⟩) ?_
  rotate_left 1
  · (intro w; go_simp <;> with_reducible rfl)
  refine wpAny_take (i := 1) (v := ?_) rfl (by kernel_rfl) (by kernel_rfl) (by kernel_rfl) (Calm.keep (by decide)) (Or.inl ⟨by rfl, ?_⟩) ?_
  rotate_left 1
  · (intro w; go_simp <;> with_reducible rfl)
  refine wpAny_take (i := 3) (v := ?_) rfl (by kernel_rfl) (by kernel_rfl) (by kernel_rfl) (Calm.keep (by decide)) (Or.inl ⟨by rfl, ?_⟩) ?_
  rotate_left 1
  · (intro w; go_simp <;> with_reducible rfl)
  refine wpAny_take (i := 4) (v := ?_) rfl (by kernel_rfl) (by kernel_rfl) (by kernel_rfl) (Calm.keep (by decide)) (Or.inl ⟨by rfl, ?_⟩) ?_
  rotate_left 1
  · (intro w; go_simp <;> with_reducible rfl)
  refine wpAny_ready (rs := [2, 5]) (by kernel_rfl) (by simp) ?_
  refine AllReady.cons rfl (fun K hK => ?_) ?_
  · go_simp
    exact ⟨⟨_, hv, rfl, HG⟩, rfl, rfl⟩
  refine AllReady.cons rfl (fun K hK => ?_) ?_
  · go_simp
    exact ⟨⟨_, hv2, rfl, HG⟩, rfl, rfl⟩
  exact AllReady.nil
theorem dbl_skip {g N sb so n dn dc rb : Nat} {da : Option Addr} {ds : List Deferred} {w : World} {Q : Exit → Act → World → Prop} {a : Act} {vb vL x18 x19 x20 : Value} (si di m o : Nat) (hA : At g N sb so n dn dc rb da ds (.int .u64 ((si : Int))) (.int .u64 ((di : Int))) vb vL (.int .u64 ((m : Int))) (.int .u64 ((o : Int))) x18 x19 x20 a) (h1 : m ≤ o)
    (HN : Hid (∀ a', At g N sb so n dn dc rb da ds (.int .u64 ((si : Int))) (.int .u64 ((di : Int))) vb vL (.int .u64 ((m : Int))) (.int .u64 ((o : Int))) x18 x19 x20 a' → Q .normal a' w)) :
    dDbl.wp Try.prog Q a w := by
  obtain ⟨u, rfl⟩ := hA.opened
  clear hA
  conv => arg 2; whnf
  have d1 : ¬ o < m := by omega
  go_wp2
  first | exact HN.out _ ⟨rfl, rfl, rfl, rfl, rfl, rfl, rfl, rfl, rfl, rfl, rfl, rfl, rfl, rfl, rfl⟩ | exact ⟨rfl, rfl, rfl, rfl, rfl, rfl, rfl, rfl, rfl, rfl, rfl, rfl, rfl, rfl, rfl⟩
theorem dbl_head1 {g N sb so n dn dc rb : Nat} {da : Option Addr} {ds : List Deferred} {w : World} {Q : Exit → Act → World → Prop} {a : Act} {vb vL x18 x19 x20 : Value} (si di m o : Nat) (hA : At g N sb so n dn dc rb da ds (.int .u64 ((si : Int))) (.int .u64 ((di : Int))) vb vL (.int .u64 ((m : Int))) (.int .u64 ((o : Int))) x18 x19 x20 a) (h1 : o < m) (Z : Code)
    (HN : Hid (∀ a', At g N sb so n dn dc rb da ds (.int .u64 ((si : Int))) (.int .u64 ((di : Int))) vb vL (.int .u64 ((m : Int))) (.int .u64 ((o : Int))) x18 x19 x20 a' → Z.wp Try.prog Q a' w)) :
    (Code.seq (seqL dDbl) (.cond (.tmp 224) Z .skip)).wp Try.prog Q a w := by
  obtain ⟨u, rfl⟩ := hA.opened
  clear hA
  refine wp_seq ?_
  conv => arg 2; whnf
  go_wp2
  exact HN.out _ ⟨rfl, rfl, rfl, rfl, rfl, rfl, rfl, rfl, rfl, rfl, rfl, rfl, rfl, rfl, rfl⟩
theorem dbl_head2 {g N sb so n dn dc rb : Nat} {da : Option Addr} {ds : List Deferred} {w : World} {Q : Exit → Act → World → Prop} {a : Act} {vb vL x18 x19 x20 : Value} (si di m o : Nat) (hA : At g N sb so n dn dc rb da ds (.int .u64 ((si : Int))) (.int .u64 ((di : Int))) vb vL (.int .u64 ((m : Int))) (.int .u64 ((o : Int))) x18 x19 x20 a) (hm : m ≤ 1125899906842624) (h0 : 0 < o) (Z : Code)
    (HN : Hid (∀ a', At g N sb so n dn dc rb da ds (.int .u64 ((si : Int))) (.int .u64 ((di : Int))) vb vL (.int .u64 ((m : Int))) (.int .u64 ((o : Int))) x18 (.int .u64 (((o * (m / o) : Nat) : Int))) x20 a' → Z.wp Try.prog Q a' w)) :
    (Code.seq (seqL dDblX) Z).wp Try.prog Q a w := by
  obtain ⟨u, rfl⟩ := hA.opened
  clear hA
  have hb : o * (m / o) ≤ m := Nat.mul_div_le m o
  have hb2 : m / o ≤ m := Nat.div_le_self m o
  refine wp_seq ?_
  conv => arg 2; whnf
  go_wp2
  have e3 : ∀ x : Nat, x ≤ m → IntKind.u64.wrap (x : Int) = (x : Int) := fun x hx => wrap_u64 _ (by omega) (by omega)
  have e0 : (m : Int) / (o : Int) = ((m / o : Nat) : Int) := by simp
  have e1 : IntKind.u64.wrap ((m : Int) / (o : Int)) = ((m / o : Nat) : Int) := by rw [e0]; exact e3 _ hb2
  have e2 : IntKind.u64.wrap ((o : Int) * ((m / o : Nat) : Int)) = ((o * (m / o) : Nat) : Int) := by
    rw [← Int.natCast_mul]
    exact e3 _ hb
  rw [e1, e2]
  exact HN.out _ ⟨rfl, rfl, rfl, rfl, rfl, rfl, rfl, rfl, rfl, rfl, rfl, rfl, rfl, rfl, rfl⟩
theorem dbl_head3 {g N sb so n dn dc rb : Nat} {da : Option Addr} {ds : List Deferred} {w : World} {Q : Exit → Act → World → Prop} {a : Act} {vb vL x18 x19 x20 : Value} (si di m o : Nat) (hA : At g N sb so n dn dc rb da ds (.int .u64 ((si : Int))) (.int .u64 ((di : Int))) vb vL (.int .u64 ((m : Int))) (.int .u64 ((o : Int))) x18 x19 x20 a) (Z : Code)
    (HN : Hid (∀ a', At g N sb so n dn dc rb da ds (.int .u64 ((si : Int))) (.int .u64 ((di : Int))) vb vL (.int .u64 ((m : Int))) (.int .u64 ((o : Int))) x18 x19 (.int .u64 ((o : Int))) a' → Z.wp Try.prog Q a' w)) :
    (Code.seq (seqL (seqL (seqR dDblX))) Z).wp Try.prog Q a w := by
  obtain ⟨u, rfl⟩ := hA.opened
  clear hA
  refine wp_seq ?_
  conv => arg 2; whnf
  go_wp2
  exact HN.out _ ⟨rfl, rfl, rfl, rfl, rfl, rfl, rfl, rfl, rfl, rfl, rfl, rfl, rfl, rfl, rfl⟩
theorem dbl_tail {g N sb so n dn dc rb : Nat} {da : Option Addr} {ds : List Deferred} {w : World} {Q : Exit → Act → World → Prop} {a : Act} {vb vL x18 x20 : Value} (si di m o t : Nat) (hA : At g N sb so n dn dc rb da ds (.int .u64 ((si : Int))) (.int .u64 ((di : Int))) vb vL (.int .u64 ((m : Int))) (.int .u64 ((o : Int))) x18 (.int .u64 ((t : Int))) x20 a) (h1 : t ≤ m) (hm : m ≤ 1125899906842624) (hdi : di ≤ 1125899906842624)
    (HN : Hid (∀ a', At g N sb so n dn dc rb da ds (.int .u64 ((si : Int))) (.int .u64 (((di + t : Nat) : Int))) vb vL (.int .u64 (((m - t : Nat) : Int))) (.int .u64 ((o : Int))) x18 (.int .u64 ((t : Int))) x20 a' → Q .normal a' w)) :
    (seqR (seqR dDblX)).wp Try.prog Q a w := by
  obtain ⟨u, rfl⟩ := hA.opened
  clear hA
  conv => arg 2; whnf
  go_wp2
  have e2 : (m : Int) - (t : Int) = ((m - t : Nat) : Int) := by omega
  rw [e2]
  exact HN.out _ ⟨rfl, rfl, rfl, rfl, rfl, rfl, rfl, rfl, rfl, rfl, rfl, rfl, rfl, rfl, rfl⟩
/-- the last copy -/
theorem last_ok {g N sb so n dn dc rb : Nat} {da : Option Addr} {ds : List Deferred} {V : Nat → Int} {w : World} {Q : Exit → Act → World → Prop} {a : Act} {vb vL x19 x20 : Value} (si di m o e : Nat) (hA : At g N sb so n dn dc rb da ds (.int .u64 ((si : Int))) (.int .u64 ((di : Int))) vb vL (.int .u64 ((m : Int))) (.int .u64 ((o : Int))) (.slice (some ⟨g, e, none⟩) (N - e) (N - e)) x19 x20 a)
    (hD : Dst w g N V) (hN : N ≤ 1099511627776) (h1 : di + m ≤ N) (h2 : e + m ≤ N)
    (HN : Hid (∀ a' w' V', At g N sb so n dn dc rb da ds (.int .u64 ((si : Int))) (.int .u64 (((di + m : Nat) : Int))) vb vL (.int .u64 ((m : Int))) (.int .u64 ((o : Int))) (.slice (some ⟨g, e, none⟩) (N - e) (N - e)) x19 x20 a' → Dst w' g N V' → w.grownBy w' (some g) →
      (∀ i, i < di → V' i = V i) → (∀ j, j < m → V' (di + j) = V (e + j)) → Q .normal a' w')) :
    dLast.wp Try.prog Q a w := by
  obtain ⟨u, rfl⟩ := hA.opened
  clear hA
  conv => arg 2; whnf
  obtain ⟨A1, hA1, hA1'⟩ := slice_lh (some ⟨g, 0, none⟩) N N di (di + m) (di : Int) ((di : Int) + (m : Int)) rfl (by omega) (by omega) (by omega)
  obtain ⟨A2, hA2, hA2'⟩ := slice_h (some ⟨g, e, none⟩) (N - e) (N - e) m (m : Int) rfl (by omega)
  simp only [Nat.add_sub_cancel_left] at hA1
  obtain ⟨w1, V1, hcp, hD1, hg1, hv1, hv2⟩ := copy_dst (m := m) (dc2 := N - di) (sc := N - e) (E := fun j => V (e + j)) (A1 := A1) (A2 := A2) (dl := m) (sl := m) (off := di) hD (by omega)
    (fun h => by simpa using hA1' g 0 rfl (by omega)) (fun h => ⟨g, e, hA2' (by omega), fun j hj => hD.cell (by omega)⟩) (by omega)
  have HF := Lib.hid (And.intro hD1 (And.intro hg1 (And.intro hv1 hv2)))
  clear hA1' hA2' hD1 hg1 hv1 hv2 hD
  refine wp_region_noPanic ?_
  go_region
  all_goals refine NoPanic.normal ?_
  all_goals exact HN.out _ _ V1 ⟨rfl, rfl, rfl, rfl, rfl, rfl, rfl, rfl, rfl, rfl, rfl, rfl, rfl, rfl, rfl⟩ HF.out.1 HF.out.2.1 HF.out.2.2.1 HF.out.2.2.2
/-- there is no room -/
theorem last_dies {g N sb so n dn dc rb : Nat} {da : Option Addr} {ds : List Deferred} {w : World} {Q : Exit → Act → World → Prop} {a : Act} {vb vL x19 x20 : Value} (si di m o e : Nat) (hA : At g N sb so n dn dc rb da ds (.int .u64 ((si : Int))) (.int .u64 ((di : Int))) vb vL (.int .u64 ((m : Int))) (.int .u64 ((o : Int))) (.slice (some ⟨g, e, none⟩) (N - e) (N - e)) x19 x20 a)
    (hN : N ≤ 1099511627776) (h1 : N < di + m) (h2 : e + m ≤ N) (hdi : di ≤ 4503599627370496) (HD : Hid (DiesTo Q ds rb g w)) :
    dLast.wp Try.prog Q a w := by
  obtain ⟨u, rfl⟩ := hA.opened
  clear hA
  conv => arg 2; whnf
  have HG := grown_drew1 w (some g)
  obtain ⟨v, hv, hA1⟩ := slice_lh_out (some ⟨g, 0, none⟩) N N (di : Int) ((di : Int) + (m : Int)) (by omega)
  obtain ⟨A2, hA2, hA2'⟩ := slice_h (some ⟨g, e, none⟩) (N - e) (N - e) m (m : Int) rfl (by omega)
  have e1 := wrap_u64 ((di : Int) + (m : Int)) (by omega) (by omega)
  clear hA2'
  refine wp_calm (R := Raises w g) (p := .pointer (some ⟨rb, 0, none⟩)) (ds := ds) ?_ (calm_dies HD.out)
  refine wp_region_any (by kernel_rfl) ?_
  (try (change wpAny _ _ _ _ _ _ _ (World.drew _)))
  refine wpAny_take (i := 0) (v := ?_) rfl (by kernel_rfl) (by kernel_rfl) (by kernel_rfl) (Calm.keep (by decide)) (Or.inl ⟨by rfl, ?_⟩) ?_
  rotate_left 1
  · (intro w; go_simp <;> with_reducible rfl)
  refine wpAny_take (i := 1) (v := ?_) rfl (by kernel_rfl) (by kernel_rfl) (by kernel_rfl) (Calm.keep (by decide)) (Or.inl ⟨by rfl, ?_⟩) ?_
  rotate_left 1
  · (intro w; go_simp <;> with_reducible rfl)
  refine wpAny_take (i := 2) (v := ?_) rfl (by kernel_rfl) (by kernel_rfl) (by kernel_rfl) (Calm.keep (by decide)) (Or.inl ⟨by rfl, ?_⟩) ?_
  rotate_left 1
  · (intro w; go_simp <;> with_reducible rfl)
  refine wpAny_take (i := 3) (v := ?_) rfl (by kernel_rfl) (by kernel_rfl) (by kernel_rfl) (Calm.keep (by decide)) (Or.inl ⟨by rfl, ?_⟩) ?_
  rotate_left 1
  · (intro w; go_simp <;> with_reducible rfl)
  refine wpAny_take (i := 4) (v := ?_) rfl (by kernel_rfl) (by kernel_rfl) (by kernel_rfl) (Calm.keep (by decide)) (Or.inl ⟨by rfl, ?_⟩) ?_
  rotate_left 1
  · (intro w; go_simp <;> with_reducible rfl)
  refine wpAny_take (i := 5) (v := ?_) rfl (by kernel_rfl) (by kernel_rfl) (by kernel_rfl) (Calm.keep (by decide)) (Or.inl ⟨by rfl, ?_⟩) ?_
  rotate_left 1
  · (intro w; go_simp <;> with_reducible rfl)
  refine wpAny_take (i := 7) (v := ?_) rfl (by kernel_rfl) (by kernel_rfl) (by kernel_rfl) (Calm.keep (by decide)) (Or.inl ⟨by rfl, ?_⟩) ?_
  rotate_left 1
  · (intro w; go_simp <;> with_reducible rfl)
  refine wpAny_take (i := 8) (v := ?_) rfl (by kernel_rfl) (by kernel_rfl) (by kernel_rfl) (Calm.keep (by decide)) (Or.inl ⟨by rfl, ?_⟩) ?_
  rotate_left 1
  · (intro w; go_simp <;> with_reducible rfl)
  refine wpAny_take (i := 9) (v := ?_) rfl (by kernel_rfl) (by kernel_rfl) (by kernel_rfl) (Calm.keep (by decide)) (Or.inl ⟨by rfl, ?_⟩) ?_
  rotate_left 1
  · (intro w; go_simp <;> with_reducible rfl)
  refine wpAny_ready (rs := [6]) (by kernel_rfl) (by simp) ?_
  refine AllReady.cons rfl (fun K hK => ?_) ?_
  · go_simp
    exact ⟨⟨_, hv, rfl, HG⟩, rfl, rfl⟩
  exact AllReady.nil
theorem dP2_eq : dP2 = Code.seq dDict (.seq dExp (.seq dDbl dLast)) := by kernel_rfl
theorem dDbl_eq : dDbl = Code.seq (seqL dDbl) (.cond (.tmp 224) (.seq (seqL dDblX) (.seq (.seq (seqL (seqL (seqR dDblX))) dDblL) (seqR (seqR dDblX)))) .skip) := by kernel_rfl
/-- the bytes from e on repeat themselves after o, up to q -/
def Per (V0 V : Nat → Int) (e o q N : Nat) : Prop := (∀ i, i < e + o → V i = V0 i) ∧ ∀ j, j < q → e + j < N → V (e + j) = V0 (e + j % o)
/-- the loop that doubles -/
theorem dbl_loop {g N sb so n dn dc rb : Nat} {da : Option Addr} {ds : List Deferred} {V : Nat → Int} {w : World} {Q : Exit → Act → World → Prop} {a : Act} {V0 : Nat → Int} {vb vL : Value} (si di m o e t q r : Nat) (hr : t + o < q + r) (hA : At g N sb so n dn dc rb da ds (.int .u64 ((si : Int))) (.int .u64 ((di : Int))) vb vL (.int .u64 ((m : Int))) (.int .u64 ((o : Int))) (.slice (some ⟨g, e, none⟩) (N - e) (N - e)) (.int .u64 ((t : Int))) (.int .u64 ((q : Int))) a)
    (hD : Dst w g N V) (hN : N ≤ 1099511627776) (hm : t ≤ 1125899906842624) (ho : o < 65536) (ho0 : 0 < o) (he : e + o ≤ N) (hq0 : o ≤ q) (hq : ∃ c, q = o * c) (hP : Per V0 V e o q N)
    (HD : Hid (N - e < t + o → DiesTo Q ds rb g w))
    (HN : Hid (∀ a' w' V' (q' : Nat), At g N sb so n dn dc rb da ds (.int .u64 ((si : Int))) (.int .u64 ((di : Int))) vb vL (.int .u64 ((m : Int))) (.int .u64 ((o : Int))) (.slice (some ⟨g, e, none⟩) (N - e) (N - e)) (.int .u64 ((t : Int))) (.int .u64 ((q' : Int))) a' → Dst w' g N V' → w.grownBy w' (some g) →
      Per V0 V' e o q' N → t + o < q' → Q (.exit 6) a' w')) :
    Code.rounds Try.prog dDblB Q (r + 1) a w := by
  induction r generalizing q a w V with
  | zero =>
    rw [rounds_succ]
    exact dbl_end si di m o t q hA hm ho (by omega) (Lib.hid fun a' ha => HN.out a' w V q ha hD (World.grownBy.refl _ _) hP (by omega))
  | succ r ih =>
    rw [rounds_succ]
    by_cases h1 : t + o < q
    · exact dbl_end si di m o t q hA hm ho h1 (Lib.hid fun a' ha => HN.out a' w V q ha hD (World.grownBy.refl _ _) hP h1)
    · by_cases h2 : q ≤ N - e
      · refine dbl_more si di m o e t q hA hD hN hm ho (by omega) (by omega) h2 (Lib.hid fun a' w' V' ha hD' hg hv1 hv2 => ?_)
        obtain ⟨c, hc⟩ := hq
        refine ih (q * 2) (by omega) ha hD' (by omega) ⟨c * 2, by rw [hc, Nat.mul_assoc]⟩ ⟨fun i hi => by rw [hv1 i (by omega)]; exact hP.1 i hi, fun j hj hj2 => ?_⟩ (Lib.hid fun hlt v tm w2 hv h6 hg2 => HD.out hlt v tm w2 hv h6 (grown_trans hg hg2))
          (Lib.hid fun a2 w2 V2 q2 ha2 hD2 hg2 hP2 hlt => HN.out a2 w2 V2 q2 ha2 hD2 (grown_trans hg hg2) hP2 hlt)
        by_cases hj3 : j < q
        · rw [hv1 _ (by omega)]
          exact hP.2 j hj3 hj2
        · have h3 := hv2 (j - q) (by omega)
          rw [show e + q + (j - q) = e + j by omega] at h3
          rw [h3, hP.2 (j - q) (by omega) (by omega)]
          congr 2
          rw [hc] at hj3 ⊢
          exact Nat.sub_mul_mod (by omega)
      · exact dbl_dies si di m o e t q hA hN hm ho (by omega) (by omega) (by omega) (Lib.hid (HD.out (by omega)))
end Go.Proofs.Ytkfkbbablgbfoaa
