/-
  decodeBlockGo: the match, whole: what it leaves where it is well told and has room, and that it fails elsewhere.
-/
import Derived.Test.YtkfkbbablgbfoaaMatch4
namespace Go.Proofs.Ytkfkbbablgbfoaa
open Go.RowKit
set_option linter.unusedVariables false
set_option maxHeartbeats 1000000
/-- the frame of which si and di alone are known -/
def AtI (g N sb so n dn dc rb : Nat) (da : Option Addr) (ds : List Deferred) (si di : Nat) (a : Act) : Prop :=
  ∃ v9 v10 v12 v13 v18 v19 v20, At g N sb so n dn dc rb da ds (.int .u64 (si : Int)) (.int .u64 (di : Int)) v9 v10 v12 v13 v18 v19 v20 a
theorem dDblL_eq : dDblL = Code.block 6 (.loop dDblB) := by kernel_rfl
theorem DiesTo.after {Q : Exit → Act → World → Prop} {ds : List Deferred} {rb g : Nat} {w w' : World} (h : DiesTo Q ds rb g w) (hg : w.grownBy w' (some g)) : DiesTo Q ds rb g w' :=
  fun v tm w2 a b c => h v tm w2 a b (grown_trans hg c)
theorem QuitsTo.after {Q : Exit → Act → World → Prop} {ds : List Deferred} {rb g : Nat} {w w' : World} (h : QuitsTo Q ds rb g w) (hg : w.grownBy w' (some g)) : QuitsTo Q ds rb g w' :=
  fun tm w2 a c => h tm w2 a (grown_trans hg c)
theorem p2t_ok {g N sb so n dn dc rb : Nat} {da : Option Addr} {ds : List Deferred} {V : Nat → Int} {w : World} {Q : Exit → Act → World → Prop} {a : Act} {vb vL x18 x19 x20 : Value} (si di m o : Nat) (hA : At g N sb so n dn dc rb da ds (.int .u64 ((si : Int))) (.int .u64 ((di : Int))) vb vL (.int .u64 ((m : Int))) (.int .u64 ((o : Int))) x18 x19 x20 a)
    (hD : Dst w g N V) (hN : N ≤ 1099511627776) (h0 : 0 < o) (ho : o < 65536) (h1 : o ≤ di) (h2 : di + m ≤ N)
    (HN : ∀ a' w' V', AtI g N sb so n dn dc rb da ds si (di + m) a' → Dst w' g N V' → w.grownBy w' (some g) →
      (∀ i, i < di → V' i = V i) → (∀ j, j < m → V' (di + j) = V' (di + j - o)) → Q .normal a' w') :
    (Code.seq dExp (.seq dDbl dLast)).wp Try.prog Q a w := by
  refine wp_seq (exp_ok si di m o hA h1 h0 (by omega) hN (Lib.hid fun a1 ha1 => ?_))
  by_cases hm : m ≤ o
  · refine wp_seq (dbl_skip si di m o ha1 hm (Lib.hid fun a2 ha2 => ?_))
    refine last_ok si di m o (di - o) ha2 hD hN h2 (by omega) (Lib.hid fun a3 w3 V3 ha3 hD3 hg3 hv1 hv2 => ?_)
    refine HN a3 w3 V3 ⟨_, _, _, _, _, _, _, ha3⟩ hD3 hg3 hv1 fun j hj => ?_
    rw [hv2 j hj, show di - o + j = di + j - o by omega, hv1 (di + j - o) (by omega)]
  · have hb : o * (m / o) ≤ m := Nat.mul_div_le m o
    have hmod : m - o * (m / o) < o := by
      have h3 := Nat.mod_add_div m o
      have h4 := Nat.mod_lt m h0
      omega
    have hmm : ∃ c, o * (m / o) = o * c := ⟨_, rfl⟩
    refine wp_seq ?_
    rw [dDbl_eq]
    refine dbl_head1 si di m o ha1 (by omega) _ (Lib.hid fun a2 ha2 => ?_)
    refine dbl_head2 si di m o ha2 (by omega) h0 _ (Lib.hid fun a3 ha3 => ?_)
    generalize o * (m / o) = t at hb hmod hmm ha3
    refine wp_seq (dbl_head3 si di m o ha3 dDblL (Lib.hid fun a4 ha4 => ?_))
    rw [dDblL_eq]
    refine wp_block (wp_loop_rounds (t + 1 + 1) (dbl_loop (V0 := V) si di m o (di - o) t o (t + 1) (by omega) ha4 hD hN (by omega) ho h0 (by omega) (by omega) ⟨1, by omega⟩
      ⟨fun i hi => rfl, fun j hj hj2 => by rw [Nat.mod_eq_of_lt hj]⟩ (Lib.hid fun hlt => by omega) (Lib.hid fun a5 w5 V5 q5 ha5 hD5 hg5 hP5 hlt => ?_)))
    show (seqR (seqR dDblX)).wp Try.prog _ a5 w5
    refine dbl_tail si di m o t ha5 hb (by omega) (by omega) (Lib.hid fun a6 ha6 => ?_)
    refine last_ok si (di + t) (m - t) o (di - o) ha6 hD5 hN (by omega) (by omega) (Lib.hid fun a7 w7 V7 ha7 hD7 hg7 hv1 hv2 => ?_)
    rw [show di + t + (m - t) = di + m by omega] at ha7
    refine HN a7 w7 V7 ⟨_, _, _, _, _, _, _, ha7⟩ hD7 (grown_trans hg5 hg7) (fun i hi => by rw [hv1 i (by omega)]; exact hP5.1 i (by omega)) fun j hj => ?_
    obtain ⟨c, hc⟩ := hmm
    by_cases hjt : j < t
    · rw [hv1 _ (by omega), hv1 _ (by omega), show di + j = di - o + (o + j) by omega, hP5.2 (o + j) (by omega) (by omega), show di - o + (o + j) - o = di - o + j by omega, hP5.2 j (by omega) (by omega), Nat.add_mod_left]
    · have h3 := hv2 (j - t) (by omega)
      rw [show di + t + (j - t) = di + j by omega] at h3
      rw [h3, hP5.2 (j - t) (by omega) (by omega), hv1 (di + j - o) (by omega), show di + j - o = di - o + (t + (j - t)) by omega, hP5.2 (t + (j - t)) (by omega) (by omega), hc, Nat.mul_add_mod]
theorem p2t_bad {g N sb so n dn dc rb : Nat} {da : Option Addr} {ds : List Deferred} {V : Nat → Int} {w : World} {Q : Exit → Act → World → Prop} {a : Act} {vb vL x18 x19 x20 : Value} (si di m o : Nat) (hA : At g N sb so n dn dc rb da ds (.int .u64 ((si : Int))) (.int .u64 ((di : Int))) vb vL (.int .u64 ((m : Int))) (.int .u64 ((o : Int))) x18 x19 x20 a)
    (hD : Dst w g N V) (hN : N ≤ 1099511627776) (h0 : 0 < o) (ho : o < 65536) (h1 : o ≤ di) (hdi : di ≤ N) (h2 : N < di + m) (hm2 : m ≤ 1125899906842624) (HD : DiesTo Q ds rb g w) :
    (Code.seq dExp (.seq dDbl dLast)).wp Try.prog Q a w := by
  refine wp_seq (exp_ok si di m o hA h1 h0 (by omega) hN (Lib.hid fun a1 ha1 => ?_))
  by_cases hm : m ≤ o
  · refine wp_seq (dbl_skip si di m o ha1 hm (Lib.hid fun a2 ha2 => ?_))
    exact last_dies si di m o (di - o) ha2 hN h2 (by omega) (by omega) (Lib.hid HD)
  · have hb : o * (m / o) ≤ m := Nat.mul_div_le m o
    have hmod : m - o * (m / o) < o := by
      have h3 := Nat.mod_add_div m o
      have h4 := Nat.mod_lt m h0
      omega
    refine wp_seq ?_
    rw [dDbl_eq]
    refine dbl_head1 si di m o ha1 (by omega) _ (Lib.hid fun a2 ha2 => ?_)
    refine dbl_head2 si di m o ha2 (by omega) h0 _ (Lib.hid fun a3 ha3 => ?_)
    generalize o * (m / o) = t at hb hmod ha3
    refine wp_seq (dbl_head3 si di m o ha3 dDblL (Lib.hid fun a4 ha4 => ?_))
    rw [dDblL_eq]
    refine wp_block (wp_loop_rounds (t + 1 + 1) (dbl_loop (V0 := V) si di m o (di - o) t o (t + 1) (by omega) ha4 hD hN (by omega) ho h0 (by omega) (by omega) ⟨1, by omega⟩
      ⟨fun i hi => rfl, fun j hj hj2 => by rw [Nat.mod_eq_of_lt hj]⟩ (Lib.hid fun hlt v tm w' x y z => HD v tm w' x y z) (Lib.hid fun a5 w5 V5 q5 ha5 hD5 hg5 hP5 hlt => ?_)))
    show (seqR (seqR dDblX)).wp Try.prog _ a5 w5
    refine dbl_tail si di m o t ha5 hb (by omega) (by omega) (Lib.hid fun a6 ha6 => ?_)
    exact last_dies si (di + t) (m - t) o (di - o) ha6 hN (by omega) (by omega) (by omega) (Lib.hid (HD.after hg5))
/-- the match's bytes: out of the dictionary, out of what was unpacked before -/
def Copied (V' D : Nat → Int) (dn di m o : Nat) : Prop := ∀ j, j < m → V' (di + j) = if di + j < o then D (dn + di + j - o) else V' (di + j - o)
theorem p2_ok {g N sb so n dn dc rb : Nat} {da : Option Addr} {ds : List Deferred} {V : Nat → Int} {w : World} {Q : Exit → Act → World → Prop} {a : Act} {D : Nat → Int} {vb vL x18 x19 x20 : Value} (si di m o : Nat) (hA : At g N sb so n dn dc rb da ds (.int .u64 ((si : Int))) (.int .u64 ((di : Int))) vb vL (.int .u64 ((m : Int))) (.int .u64 ((o : Int))) x18 x19 x20 a)
    (hD : Dst w g N V) (hC : Dct w da dn g D) (hdn : dn ≤ 1099511627776) (hdc : dn ≤ dc) (hN : N ≤ 1099511627776) (h0 : 0 < o) (ho : o < 65536) (h1 : o ≤ dn + di) (h2 : di + m ≤ N) (hm0 : 0 < m)
    (HN : ∀ e a' w' V', e = .normal ∨ e = .exit 1 → AtI g N sb so n dn dc rb da ds si (di + m) a' → Dst w' g N V' → w.grownBy w' (some g) →
      (∀ i, i < di → V' i = V i) → Copied V' D dn di m o → Q e a' w') :
    dP2.wp Try.prog Q a w := by
  rw [dP2_eq]
  refine wp_seq ?_
  by_cases hk : o ≤ di
  · refine dict_no si di m o hA hk (Lib.hid fun a1 ha1 => ?_)
    refine p2t_ok si di m o ha1 hD hN h0 ho hk h2 fun a2 w2 V2 ha2 hD2 hg2 hv1 hv2 => ?_
    exact HN _ a2 w2 V2 (Or.inl rfl) ha2 hD2 hg2 hv1 fun j hj => by rw [if_neg (by omega)]; exact hv2 j hj
  · refine dict_ok (D := D) si di m o hA (by omega) h1 ho hdn hdc hN (by omega) h2 hD hC hm0 (Lib.hid fun hq a1 w1 V1 ha1 hD1 hg1 hv1 hv2 => ?_) (Lib.hid fun hq a1 w1 V1 ha1 hD1 hg1 hv1 hv2 => ?_)
    · refine HN _ a1 w1 V1 (Or.inr rfl) ⟨_, _, _, _, _, _, _, ha1⟩ hD1 hg1 hv1 fun j hj => ?_
      rw [if_pos (by omega), hv2 j hj]
      congr 1; omega
    · refine p2t_ok si o (m - (o - di)) o ha1 hD1 hN h0 ho (Nat.le_refl _) (by omega) fun a2 w2 V2 ha2 hD2 hg2 hv3 hv4 => ?_
      rw [show o + (m - (o - di)) = di + m by omega] at ha2
      refine HN _ a2 w2 V2 (Or.inl rfl) ha2 hD2 (grown_trans hg1 hg2) (fun i hi => by rw [hv3 i (by omega)]; exact hv1 i hi) fun j hj => ?_
      by_cases hjo : di + j < o
      · rw [if_pos hjo, hv3 _ hjo, hv2 j (by omega)]
        congr 1; omega
      · rw [if_neg hjo]
        have h5 := hv4 (di + j - o) (by omega)
        rw [show o + (di + j - o) = di + j by omega] at h5
        exact h5
theorem p2_bad {g N sb so n dn dc rb : Nat} {da : Option Addr} {ds : List Deferred} {V : Nat → Int} {w : World} {Q : Exit → Act → World → Prop} {a : Act} {D : Nat → Int} {vb vL x18 x19 x20 : Value} (si di m o : Nat) (hA : At g N sb so n dn dc rb da ds (.int .u64 ((si : Int))) (.int .u64 ((di : Int))) vb vL (.int .u64 ((m : Int))) (.int .u64 ((o : Int))) x18 x19 x20 a)
    (hD : Dst w g N V) (hC : Dct w da dn g D) (hdn : dn ≤ 1099511627776) (hdc : dn ≤ dc) (hN : N ≤ 1099511627776) (h0 : 0 < o) (ho : o < 65536) (hdi : di ≤ N) (hm2 : m ≤ 1125899906842624)
    (hbad : dn + di < o ∨ N < di + m) (HD : DiesTo Q ds rb g w) :
    dP2.wp Try.prog Q a w := by
  rw [dP2_eq]
  refine wp_seq ?_
  by_cases hk : o ≤ di
  · refine dict_no si di m o hA hk (Lib.hid fun a1 ha1 => ?_)
    exact p2t_bad si di m o ha1 hD hN h0 ho hk hdi (by omega) hm2 HD
  · by_cases hs : dn + di < o
    · exact dict_short si di m o hA hs ho hdn (Lib.hid fun v tm w' x y z => HD v tm w' x y z)
    · exact dict_full si di m o hA (by omega) (by omega) ho hdn hdc hN hm2 (by omega) (Lib.hid fun v tm w' x y z => HD v tm w' x y z)
/-- the match is well told -/
def MatchOk (S : Nat → Int) (n dn N di b si si' o m : Nat) : Prop :=
  si + 1 < n ∧ S si + 256 * S (si + 1) = (o : Int) ∧ 0 < o ∧ LenOk S n (si + 2) (b % 16 + 4) 19 si' m ∧ o ≤ dn + di ∧ di + m ≤ N
/-- the match is not well told, or has no room -/
def MatchBad (S : Nat → Int) (n dn N di b si : Nat) : Prop :=
  (si = n ∧ b % 16 ≠ 0) ∨ si + 1 = n ∨ (si + 1 < n ∧ ∃ o : Nat, S si + 256 * S (si + 1) = (o : Int) ∧
    (o = 0 ∨ (0 < o ∧ (LenBad S n (si + 2) (b % 16 + 4) 19 ∨ ∃ si' m, LenOk S n (si + 2) (b % 16 + 4) 19 si' m ∧ (dn + di < o ∨ N < di + m)))))
theorem grown_drewN0 (w : World) (k : Nat) (row : Option Nat) : w.grownBy (w.drewN k) row := grown_drewN (World.grownBy.refl _ _) k
theorem match_ok {g N sb so n dn dc rb : Nat} {da : Option Addr} {ds : List Deferred} {S V : Nat → Int} {w : World} {Q : Exit → Act → World → Prop} {a : Act} {D : Nat → Int} {vL vm vo x18 x19 x20 : Value} (si di b si' o m : Nat) (hA : At g N sb so n dn dc rb da ds (.int .u64 ((si : Int))) (.int .u64 ((di : Int))) (.int .u64 ((b : Int))) vL vm vo x18 x19 x20 a) (hb : b < 256)
    (hD : Dst w g N V) (hS : Src w sb so n S) (hsb : sb ≠ g) (hC : Dct w da dn g D) (hR : Slot w rb) (hn : n ≤ 1099511627776) (hdn : dn ≤ 1099511627776) (hdc : dn ≤ dc) (hN : N ≤ 1099511627776)
    (h : MatchOk S n dn N di b si si' o m)
    (HN : ∀ e a' w' V', e = .normal ∨ e = .exit 1 → AtI g N sb so n dn dc rb da ds si' (di + m) a' → Dst w' g N V' → w.grownBy w' (some g) →
      (∀ i, i < di → V' i = V i) → Copied V' D dn di m o → Q e a' w') :
    dMatch.wp Try.prog Q a w := by
  obtain ⟨h1, h2, h3, hL, h5, h6⟩ := h
  have ho : o < 65536 := by
    have b0 := hS.2 si
    have b1 := hS.2 (si + 1)
    omega
  rw [dMatch_eq]
  refine mhead_on si di b hA hb dM2 hn (by omega) (Lib.hid fun a1 ha1 => ?_)
  rw [dM2_eq]
  refine off_ok si di (b % 16) ha1 (by omega) _ hS hn h1 hR o h2 (Lib.hid fun hz => by omega) (Lib.hid fun _ a2 w2 ha2 hw2 => ?_)
  obtain ⟨k, rfl⟩ := hw2
  have hg := grown_drewN0 w k (some g)
  by_cases hsh : b % 16 + 4 ≤ 16 ∧ b % 16 + 4 ≤ o ∧ o < di ∧ di + 16 ≤ N
  · obtain ⟨k1, k2, k3, k4⟩ := hsh
    rcases hL with ⟨_, rfl, rfl⟩ | ⟨hx, _⟩
    · refine wp_seq (p1_short (si + 2) di (b % 16 + 4) o ha2 (hD.drewN k) hN k1 k2 k3 k4 (Lib.hid fun a3 w3 V3 ha3 hD3 hg3 hv1 hv2 => ?_))
      refine HN _ a3 w3 V3 (Or.inr rfl) ⟨_, _, _, _, _, _, _, ha3⟩ hD3 (grown_trans hg hg3) hv1 fun j hj => ?_
      rw [if_neg (by omega), hv2 j hj, show di - o + j = di + j - o by omega, hv1 _ (by omega)]
    · omega
  · have fin : ∀ a3, At g N sb so n dn dc rb da ds (.int .u64 ((si' : Int))) (.int .u64 ((di : Int))) (.int .u64 ((b : Int))) vL (.int .u64 ((m : Int))) (.int .u64 ((o : Int))) x18 x19 x20 a3 → dP2.wp Try.prog Q a3 (w.drewN k) := fun a3 ha3 => by
      have hm0 : 0 < m := by
        rcases hL with ⟨_, rfl, rfl⟩ | ⟨_, k', e', _, rfl, _⟩ <;> omega
      exact p2_ok si' di m o ha3 (hD.drewN k) (hC.grown hg) hdn hdc hN h3 ho h5 h6 hm0 fun e a' w' V' he ha hd hgr hv hc => HN e a' w' V' he ha hd (grown_trans hg hgr) hv hc
    refine wp_seq ?_
    by_cases hl : b % 16 + 4 = 19
    · rw [dP1_eq]
      refine p1_long (si + 2) di (b % 16 + 4) o ha2 hl dExt2 _ (Lib.hid fun a3 ha3 => ?_)
      rcases hL with ⟨hx, _⟩ | ⟨_, k', e', hE, rfl, rfl⟩
      · omega
      · refine ext2_ok (si + 2) di (b % 16 + 4) k' e' ha3 (hS.grown hg hsb) hn (by omega) hE fun a4 ha4 => ?_
        rw [hl] at ha4
        exact fin a4 ha4
    · refine p1_skip (si + 2) di (b % 16 + 4) o ha2 hN (by omega) (by omega) (Lib.hid fun a3 ha3 => ?_)
      rcases hL with ⟨_, rfl, rfl⟩ | ⟨hx, _⟩
      · exact fin a3 ha3
      · omega
theorem match_bad {g N sb so n dn dc rb : Nat} {da : Option Addr} {ds : List Deferred} {S V : Nat → Int} {w : World} {Q : Exit → Act → World → Prop} {a : Act} {D : Nat → Int} {vL vm vo x18 x19 x20 : Value} (si di b : Nat) (hA : At g N sb so n dn dc rb da ds (.int .u64 ((si : Int))) (.int .u64 ((di : Int))) (.int .u64 ((b : Int))) vL vm vo x18 x19 x20 a) (hb : b < 256)
    (hD : Dst w g N V) (hS : Src w sb so n S) (hsb : sb ≠ g) (hC : Dct w da dn g D) (hR : Slot w rb) (hn : n ≤ 1099511627776) (hdn : dn ≤ 1099511627776) (hdc : dn ≤ dc) (hN : N ≤ 1099511627776) (hdi : di ≤ N)
    (h : MatchBad S n dn N di b si) (HD : DiesTo Q ds rb g w) (HQ : QuitsTo Q ds rb g w) :
    dMatch.wp Try.prog Q a w := by
  rw [dMatch_eq]
  rcases h with ⟨h1, h2⟩ | h1 | ⟨h1, o, h2, h3⟩
  · exact mhead_quit si di b hA hb dM2 hn hR h1 h2 (Lib.hid HQ)
  · refine mhead_on si di b hA hb dM2 hn (by omega) (Lib.hid fun a1 ha1 => ?_)
    exact off_dies si di (b % 16) ha1 (by omega) hS hn h1 (Lib.hid HD)
  · have ho : o < 65536 := by
      have b0 := hS.2 si
      have b1 := hS.2 (si + 1)
      omega
    refine mhead_on si di b hA hb dM2 hn (by omega) (Lib.hid fun a1 ha1 => ?_)
    rw [dM2_eq]
    refine off_ok si di (b % 16) ha1 (by omega) _ hS hn h1 hR o h2 (Lib.hid fun hz => HQ) (Lib.hid fun ho0 a2 w2 ha2 hw2 => ?_)
    obtain ⟨k, rfl⟩ := hw2
    have hg := grown_drewN0 w k (some g)
    rcases h3 with h3 | ⟨_, h3⟩
    · omega
    · have fin : ∀ a3 (si' m : Nat), At g N sb so n dn dc rb da ds (.int .u64 ((si' : Int))) (.int .u64 ((di : Int))) (.int .u64 ((b : Int))) vL (.int .u64 ((m : Int))) (.int .u64 ((o : Int))) x18 x19 x20 a3 → m ≤ 1125899906842624 → dn + di < o ∨ N < di + m → dP2.wp Try.prog Q a3 (w.drewN k) := fun a3 si' m ha3 hm hbad =>
        p2_bad si' di m o ha3 (hD.drewN k) (hC.grown hg) hdn hdc hN ho0 ho hdi hm hbad (HD.after hg)
      refine wp_seq ?_
      by_cases hl : b % 16 + 4 = 19
      · rw [dP1_eq]
        refine p1_long (si + 2) di (b % 16 + 4) o ha2 hl dExt2 _ (Lib.hid fun a3 ha3 => ?_)
        rcases h3 with ⟨_, hx⟩ | ⟨si', m, ⟨hx, _⟩ | ⟨_, k', e', hE, rfl, rfl⟩, hbad⟩
        · exact ext2_bad (si + 2) di (b % 16 + 4) (n - (si + 2)) ha3 (hS.grown hg hsb) hn (by omega) (by omega) hx (Lib.hid fun v tm w' x y z => (HD.after hg) v tm w' x y z)
        · omega
        · have hE3 := hE.2.2.1
          have hE4 := hE.2.2.2
          refine ext2_ok (si + 2) di (b % 16 + 4) k' e' ha3 (hS.grown hg hsb) hn (by omega) hE fun a4 ha4 => ?_
          rw [hl] at ha4
          exact fin a4 _ _ ha4 (by omega) hbad
      · rcases h3 with ⟨hx, _⟩ | ⟨si', m, ⟨hlt, rfl, rfl⟩ | ⟨hx, _⟩, hbad⟩
        · omega
        · refine p1_skip (si + 2) di (b % 16 + 4) o ha2 hN (by omega) (by omega) (Lib.hid fun a3 ha3 => ?_)
          exact fin a3 _ _ ha3 (by omega) hbad
        · omega
end Go.Proofs.Ytkfkbbablgbfoaa
