/-
  decodeBlockGo: the loop: what a block tells, as a relation on lists of bytes, and that the loop unpacks it so.
-/
import Derived.Test.YtkfkbbablgbfoaaMatch5
namespace Go.Proofs.Ytkfkbbablgbfoaa
open Go.RowKit
set_option linter.unusedVariables false
set_option maxHeartbeats 2000000
set_option maxRecDepth 100000
theorem dBody_eq : dBody = Code.seq (seqL dBody) (.seq (seqL (seqR dBody)) (.seq dLit dMatch)) := by kernel_rfl
theorem dLoop_eq : dLoop = Code.seq (seqL dLoop) (.block 1 dBody) := by kernel_rfl
theorem body_head {g N sb so n dn dc rb : Nat} {da : Option Addr} {ds : List Deferred} {S : Nat → Int} {w : World} {Q : Exit → Act → World → Prop} {a : Act} {v9 v10 v12 v13 x18 x19 x20 : Value} (si di b : Nat) (hA : At g N sb so n dn dc rb da ds (.int .u64 ((si : Int))) (.int .u64 ((di : Int))) v9 v10 v12 v13 x18 x19 x20 a)
    (hS : Src w sb so n S) (hn : n ≤ 1099511627776) (h1 : si < n) (hb : S si = (b : Int)) (hb2 : b < 256) (X : Code)
    (HN : Hid (∀ a', At g N sb so n dn dc rb da ds (.int .u64 (((si + 1 : Nat) : Int))) (.int .u64 ((di : Int))) (.int .u64 ((b : Int))) v10 v12 v13 x18 x19 x20 a' → X.wp Try.prog Q a' w)) :
    (Code.seq (seqL dBody) (.seq (seqL (seqR dBody)) X)).wp Try.prog Q a w := by
  obtain ⟨u, rfl⟩ := hA.opened
  clear hA
  have c0 := hS.1 si h1
  rw [hb] at c0
  have l1 : (si : Int) < (n : Int) := by omega
  clear hS hb
  refine wp_seq ?_
  conv => arg 2; whnf
  go_wp2
  conv => arg 2; whnf
  go_wp2
  exact HN.out _ ⟨rfl, rfl, rfl, rfl, rfl, rfl, rfl, rfl, rfl, rfl, rfl, rfl, rfl, rfl, rfl⟩
theorem loop_head_on {g N sb so n dn dc rb : Nat} {da : Option Addr} {ds : List Deferred} {w : World} {Q : Exit → Act → World → Prop} {a : Act} {v9 v10 v12 v13 x18 x19 x20 : Value} (si di : Nat) (hA : At g N sb so n dn dc rb da ds (.int .u64 ((si : Int))) (.int .u64 ((di : Int))) v9 v10 v12 v13 x18 x19 x20 a)
    (hn : n ≤ 1099511627776) (h1 : si < n)
    (HN : Hid (∀ a', At g N sb so n dn dc rb da ds (.int .u64 ((si : Int))) (.int .u64 ((di : Int))) v9 v10 v12 v13 x18 x19 x20 a' → Q .normal a' w)) :
    (seqL dLoop).wp Try.prog Q a w := by
  obtain ⟨u, rfl⟩ := hA.opened
  clear hA
  conv => arg 2; whnf
  have l1 : (si : Int) < (n : Int) := by omega
  go_wp2
  first | exact HN.out _ ⟨rfl, rfl, rfl, rfl, rfl, rfl, rfl, rfl, rfl, rfl, rfl, rfl, rfl, rfl, rfl⟩ | exact ⟨rfl, rfl, rfl, rfl, rfl, rfl, rfl, rfl, rfl, rfl, rfl, rfl, rfl, rfl, rfl⟩
theorem loop_head_end {g N sb so n dn dc rb : Nat} {da : Option Addr} {ds : List Deferred} {w : World} {Q : Exit → Act → World → Prop} {a : Act} {v9 v10 v12 v13 x18 x19 x20 : Value} (si di : Nat) (hA : At g N sb so n dn dc rb da ds (.int .u64 ((si : Int))) (.int .u64 ((di : Int))) v9 v10 v12 v13 x18 x19 x20 a)
    (hn : n ≤ 1099511627776) (h1 : si = n)
    (HN : Hid (∀ a', At g N sb so n dn dc rb da ds (.int .u64 ((si : Int))) (.int .u64 ((di : Int))) v9 v10 v12 v13 x18 x19 x20 a' → Q (.exit 0) a' w)) :
    (seqL dLoop).wp Try.prog Q a w := by
  obtain ⟨u, rfl⟩ := hA.opened
  clear hA
  conv => arg 2; whnf
  have l1 : ¬ si < n := by omega
  go_wp2
  first | exact HN.out _ ⟨rfl, rfl, rfl, rfl, rfl, rfl, rfl, rfl, rfl, rfl, rfl, rfl, rfl, rfl, rfl⟩ | exact ⟨rfl, rfl, rfl, rfl, rfl, rfl, rfl, rfl, rfl, rfl, rfl, rfl, rfl, rfl, rfl⟩
/-- the literals are there and have room -/
def LitOk (S : Nat → Int) (n N di b si si' L : Nat) : Prop :=
  LenOk S n si (b / 16) 15 si' L ∧ si' + L ≤ n ∧ di + L ≤ N ∧ (0 < L → L ≤ 16 → si' + 16 < n → di + 16 ≤ N)
def LitBad (S : Nat → Int) (n N di b si : Nat) : Prop :=
  LenBad S n si (b / 16) 15 ∨ ∃ si' L, LenOk S n si (b / 16) 15 si' L ∧ 0 < L ∧ (n < si' + L ∨ N < di + L ∨ (L ≤ 16 ∧ si' + 16 < n ∧ N < di + 16))
/-- the byte that stands o bytes behind the end -/
def back (D : Nat → Int) (dn o : Nat) (out : List Int) : Int := if out.length < o then D (dn + out.length - o) else out.getD (out.length - o) 0
def repeated (D : Nat → Int) (dn o : Nat) : Nat → List Int → List Int
  | 0, out => out
  | m + 1, out => repeated D dn o m (out ++ [back D dn o out])
/-- what a block tells: from si on, with 'out' unpacked -/
inductive Dec (S D : Nat → Int) (n dn N : Nat) : Nat → List Int → Option (List Int) → Prop
  | stop {out} : Dec S D n dn N n out (some out)
  | litBad {si out} (b : Nat) (h1 : si < n) (h2 : S si = (b : Int)) (h3 : LitBad S n N out.length b (si + 1)) : Dec S D n dn N si out none
  | matchBad {si out} (b si' L : Nat) (h1 : si < n) (h2 : S si = (b : Int)) (h3 : LitOk S n N out.length b (si + 1) si' L) (h4 : MatchBad S n dn N (out.length + L) b (si' + L)) : Dec S D n dn N si out none
  | fin {si out} (b si' L : Nat) (h1 : si < n) (h2 : S si = (b : Int)) (h3 : LitOk S n N out.length b (si + 1) si' L) (h4 : si' + L = n) (h5 : b % 16 = 0) :
      Dec S D n dn N si out (some (out ++ (List.range L).map fun j => S (si' + j)))
  | next {si out r} (b si' L si2 o m : Nat) (h1 : si < n) (h2 : S si = (b : Int)) (h3 : LitOk S n N out.length b (si + 1) si' L) (h4 : MatchOk S n dn N (out.length + L) b (si' + L) si2 o m)
      (h5 : Dec S D n dn N si2 (repeated D dn o m (out ++ (List.range L).map fun j => S (si' + j))) r) : Dec S D n dn N si out r
theorem repeated_length (D : Nat → Int) (dn o : Nat) : ∀ (m : Nat) (out : List Int), (repeated D dn o m out).length = out.length + m
  | 0, out => rfl
  | m + 1, out => by rw [repeated, repeated_length]; simp; omega
/-- V holds 'out' -/
def Holds (V : Nat → Int) (out : List Int) : Prop := ∀ i, i < out.length → V i = out.getD i 0
theorem holds_append {V V' : Nat → Int} {out : List Int} {L : Nat} {f : Nat → Int} (h : Holds V out) (h1 : ∀ i, i < out.length → V' i = V i) (h2 : ∀ j, j < L → V' (out.length + j) = f j) :
    Holds V' (out ++ (List.range L).map f) := by
  intro i hi
  simp only [List.length_append, List.length_map, List.length_range] at hi
  by_cases hk : i < out.length
  · rw [h1 i hk, h i hk]
    simp [List.getD_eq_getElem?_getD, List.getElem?_append_left hk]
  · have h3 := h2 (i - out.length) (by omega)
    rw [show out.length + (i - out.length) = i by omega] at h3
    rw [h3]
    simp [List.getD_eq_getElem?_getD, List.getElem?_append_right (by omega : out.length ≤ i), List.getElem?_range (by omega : i - out.length < L)]
theorem holds_repeated {D V : Nat → Int} {dn o : Nat} (h0 : 0 < o) : ∀ (m : Nat) (out : List Int), Holds V out → o ≤ dn + out.length → Copied V D dn out.length m o → Holds V (repeated D dn o m out)
  | 0, out, h, _, _ => h
  | m + 1, out, h, h1, h2 => by
    rw [repeated]
    refine holds_repeated h0 m _ ?_ (by simp; omega) ?_
    · intro i hi
      simp only [List.length_append, List.length_cons, List.length_nil] at hi
      by_cases hk : i < out.length
      · rw [h i hk]
        simp [List.getD_eq_getElem?_getD, List.getElem?_append_left hk]
      · have hi : i = out.length := by omega
        subst hi
        have h3 := h2 0 (by omega)
        simp only [Nat.add_zero] at h3
        rw [h3]
        simp only [List.getD_eq_getElem?_getD, List.getElem?_append_right (Nat.le_refl _), Nat.sub_self, List.getElem?_cons_zero, Option.getD_some, back]
        by_cases hlt : out.length < o
        · rw [if_pos hlt, if_pos hlt]
        · rw [if_neg hlt, if_neg hlt, h _ (by omega)]
          simp [List.getD_eq_getElem?_getD]
    · intro j hj
      have h3 := h2 (j + 1) (by omega)
      simp only [List.length_append, List.length_cons, List.length_nil, Nat.zero_add]
      rw [show out.length + 1 + j = out.length + (j + 1) by omega, h3]
      by_cases hlt : out.length + (j + 1) < o
      · rw [if_pos hlt, if_pos hlt]
        congr 1
        omega
      · rw [if_neg hlt, if_neg hlt]
theorem Slot.grown {w w' : World} {rb g : Nat} (h : Slot w rb) (hg : w.grownBy w' (some g)) (hne : rb ≠ g) : Slot w' rb := by
  obtain ⟨⟨x, hc⟩, hz⟩ := h
  refine ⟨⟨x, grown_cell hg hc (by intro e; exact hne (Option.some.inj e))⟩, ?_⟩
  have hlt : rb < w.heap.size := by
    unfold World.cell? at hc
    cases hk : w.heap[rb]? with
    | none => simp [hk] at hc
    | some o => exact (Array.getElem?_eq_some_iff.1 hk).1
  have hb := hg.block rb hlt (by intro e; exact hne (Option.some.inj e))
  unfold World.frozen? at hz ⊢
  simpa [hb] using hz
theorem lenOk_le {S : Nat → Int} {n si base lim si' L : Nat} (h : LenOk S n si base lim si' L) (h1 : si ≤ n) : si ≤ si' ∧ si' ≤ n := by
  rcases h with ⟨_, _, rfl⟩ | ⟨_, k, e, hE, _, rfl⟩
  · exact ⟨Nat.le_refl _, h1⟩
  · have := hE.2.2.2
    omega
theorem loop_rounds {g N sb so n dn dc rb : Nat} {da : Option Addr} {ds : List Deferred} {S D : Nat → Int} (hsb : sb ≠ g) (hrb : rb ≠ g) (hn : n ≤ 1099511627776) (hdn : dn ≤ 1099511627776) (hdc : dn ≤ dc) (hN : N ≤ 1099511627776)
    {si : Nat} {out : List Int} {r : Option (List Int)} (h : Dec S D n dn N si out r) : ∀ (k : Nat) {a : Act} {w : World} {V : Nat → Int} {Q : Exit → Act → World → Prop}, n - si < k → si ≤ n → out.length ≤ N →
      AtI g N sb so n dn dc rb da ds si out.length a → Dst w g N V → Holds V out → Src w sb so n S → Dct w da dn g D → Slot w rb →
      (∀ out', r = some out' → ∀ a' w' V', AtI g N sb so n dn dc rb da ds n out'.length a' → Dst w' g N V' → w.grownBy w' (some g) → Holds V' out' → out'.length ≤ N → Q (.exit 0) a' w') →
      (r = none → DiesTo Q ds rb g w) → (r = none → QuitsTo Q ds rb g w) → Code.rounds Try.prog dLoop Q k a w := by
  induction h with
  | stop =>
    intro k a w V Q hk h1 h2 hA hD hV hS hC hR HN HD HQ
    obtain ⟨k, rfl⟩ : ∃ j, k = j + 1 := ⟨k - 1, by omega⟩
    rw [rounds_succ, dLoop_eq]
    obtain ⟨v9, v10, v12, v13, v18, v19, v20, hA⟩ := hA
    exact wp_seq (loop_head_end n _ hA hn rfl (Lib.hid fun a1 ha1 => HN _ rfl a1 w V ⟨_, _, _, _, _, _, _, ha1⟩ hD (World.grownBy.refl _ _) hV h2))
  | @litBad si out b hlt hb hL =>
    intro k a w V Q hk h1 h2 hA hD hV hS hC hR HN HD HQ
    obtain ⟨k, rfl⟩ : ∃ j, k = j + 1 := ⟨k - 1, by omega⟩
    rw [rounds_succ, dLoop_eq]
    obtain ⟨v9, v10, v12, v13, v18, v19, v20, hA⟩ := hA
    have hb2 : b < 256 := by have := hS.2 si; omega
    refine wp_seq (loop_head_on si _ hA hn hlt (Lib.hid fun a1 ha1 => wp_block ?_))
    rw [dBody_eq]
    refine body_head si _ b ha1 hS hn hlt hb hb2 _ (Lib.hid fun a2 ha2 => wp_seq ?_)
    exact lit_bad (si + 1) _ b ha2 hb2 hS hn hN (by omega) (by omega) h2 hL (Lib.hid fun v tm w' x y z => HD rfl v tm w' x y z)
  | @matchBad si out b si' L hlt hb hL hM =>
    intro k a w V Q hk h1 h2 hA hD hV hS hC hR HN HD HQ
    obtain ⟨k, rfl⟩ : ∃ j, k = j + 1 := ⟨k - 1, by omega⟩
    rw [rounds_succ, dLoop_eq]
    obtain ⟨v9, v10, v12, v13, v18, v19, v20, hA⟩ := hA
    have hb2 : b < 256 := by have := hS.2 si; omega
    obtain ⟨hL1, hL2, hL3, hL4⟩ := hL
    refine wp_seq (loop_head_on si _ hA hn hlt (Lib.hid fun a1 ha1 => wp_block ?_))
    rw [dBody_eq]
    refine body_head si _ b ha1 hS hn hlt hb hb2 _ (Lib.hid fun a2 ha2 => wp_seq ?_)
    refine lit_ok (si + 1) _ b si' L ha2 hb2 hD hS hn hN (by omega) hL1 hL2 hL3 hL4 fun a3 w3 V3 ha3 hD3 hg3 hv1 hv2 => ?_
    exact match_bad (si' + L) _ b ha3 hb2 hD3 (hS.grown hg3 hsb) hsb (hC.grown hg3) (hR.grown hg3 hrb) hn hdn hdc hN hL3 hM (fun v tm w' x y z => (HD rfl).after hg3 v tm w' x y z) (fun tm w' y z => (HQ rfl).after hg3 tm w' y z)
  | @fin si out b si' L hlt hb hL he hm =>
    intro k a w V Q hk h1 h2 hA hD hV hS hC hR HN HD HQ
    obtain ⟨k, rfl⟩ : ∃ j, k = j + 1 := ⟨k - 1, by omega⟩
    rw [rounds_succ, dLoop_eq]
    obtain ⟨v9, v10, v12, v13, v18, v19, v20, hA⟩ := hA
    have hb2 : b < 256 := by have := hS.2 si; omega
    obtain ⟨hL1, hL2, hL3, hL4⟩ := hL
    refine wp_seq (loop_head_on si _ hA hn hlt (Lib.hid fun a1 ha1 => wp_block ?_))
    rw [dBody_eq]
    refine body_head si _ b ha1 hS hn hlt hb hb2 _ (Lib.hid fun a2 ha2 => wp_seq ?_)
    refine lit_ok (si + 1) _ b si' L ha2 hb2 hD hS hn hN (by omega) hL1 hL2 hL3 hL4 fun a3 w3 V3 ha3 hD3 hg3 hv1 hv2 => ?_
    show dMatch.wp Try.prog _ a3 w3
    rw [dMatch_eq]
    refine mhead_end (si' + L) _ b ha3 hb2 dM2 hn he hm (Lib.hid fun a4 ha4 => ?_)
    rw [he] at ha4
    exact HN _ rfl a4 w3 V3 ⟨_, _, _, _, _, _, _, by simpa using ha4⟩ hD3 hg3 (holds_append hV hv1 hv2) (by simpa using hL3)
  | @next si out r b si' L si2 o m hlt hb hL hM hrest ih =>
    intro k a w V Q hk h1 h2 hA hD hV hS hC hR HN HD HQ
    obtain ⟨k, rfl⟩ : ∃ j, k = j + 1 := ⟨k - 1, by omega⟩
    rw [rounds_succ, dLoop_eq]
    obtain ⟨v9, v10, v12, v13, v18, v19, v20, hA⟩ := hA
    have hb2 : b < 256 := by have := hS.2 si; omega
    obtain ⟨hL1, hL2, hL3, hL4⟩ := hL
    refine wp_seq (loop_head_on si _ hA hn hlt (Lib.hid fun a1 ha1 => wp_block ?_))
    rw [dBody_eq]
    refine body_head si _ b ha1 hS hn hlt hb hb2 _ (Lib.hid fun a2 ha2 => wp_seq ?_)
    refine lit_ok (si + 1) _ b si' L ha2 hb2 hD hS hn hN (by omega) hL1 hL2 hL3 hL4 fun a3 w3 V3 ha3 hD3 hg3 hv1 hv2 => ?_
    have hS3 := hS.grown hg3 hsb
    have hl1 := lenOk_le hL1 (by omega)
    have hl2 := lenOk_le hM.2.2.2.1 (by have := hM.1; omega)
    have hM1 := hM.1
    have hM0 := hM.2.2.1
    have hM5 := hM.2.2.2.2.1
    have hM6 := hM.2.2.2.2.2
    refine match_ok (si' + L) _ b si2 o m ha3 hb2 hD3 hS3 hsb (hC.grown hg3) (hR.grown hg3 hrb) hn hdn hdc hN hM fun e a4 w4 V4 he ha4 hD4 hg4 hv3 hc4 => ?_
    have hg := grown_trans hg3 hg4
    have hlen : (out ++ (List.range L).map fun j => S (si' + j)).length = out.length + L := by simp
    have hV3 : Holds V4 (out ++ (List.range L).map fun j => S (si' + j)) := fun i hi => by
      rw [hv3 i (by rw [← hlen]; exact hi)]
      exact holds_append hV hv1 hv2 i hi
    have hV4 := holds_repeated (D := D) (dn := dn) hM0 m _ hV3 (by rw [hlen]; exact hM5) (by rw [hlen]; exact hc4)
    have hfin := ih k (a := a4) (w := w4) (V := V4) (Q := Q) (by omega) (by omega) (by rw [repeated_length, hlen]; exact hM6) (by rw [repeated_length, hlen]; exact ha4) hD4 hV4 (hS.grown hg hsb) (hC.grown hg) (hR.grown hg hrb)
      (fun out' hr a5 w5 V5 ha5 hD5 hg5 hv5 hl5 => HN out' hr a5 w5 V5 ha5 hD5 (grown_trans hg hg5) hv5 hl5) (fun hr => (HD hr).after hg) (fun hr => (HQ hr).after hg)
    rcases he with rfl | rfl
    · exact hfin
    · exact hfin
end Go.Proofs.Ytkfkbbablgbfoaa
