/-
  decodeBlockGo, whole.
-/
import Derived.Test.YtkfkbbablgbfoaaLoop
namespace Go.Proofs.Ytkfkbbablgbfoaa
open Go.RowKit
set_option linter.unusedVariables false
set_option maxHeartbeats 2000000
set_option maxRecDepth 100000
noncomputable def dFront (X : Code) : Code :=
  .seq (seqL dWhole) (.seq (seqL (seqR dWhole)) (.seq (seqL (seqR (seqR dWhole))) (.seq (seqL (seqR (seqR (seqR dWhole)))) (.seq (seqL (seqR (seqR (seqR (seqR dWhole))))) (.seq (seqL (seqR (seqR (seqR (seqR (seqR dWhole)))))) X)))))
theorem dFront_eq : Try.f24.body = some (dFront dTail) := by kernel_rfl
theorem dTail_eq : dTail = Code.seq (.block 0 (.loop dLoop)) (seqR dTail) := by kernel_rfl
theorem front24 {g N Nc sb so n nc dn dc : Nat} {da : Option Addr} {w : World} {R : Ending → World → Prop} (hn0 : 0 < n) (hn : n ≤ 1099511627776) (hN : N ≤ 1099511627776) (hNc : N ≤ Nc) (hnc : n ≤ nc)
    (h : ∀ a, AtI g N sb so n dn dc w.heap.size da [⟨.fn (.func 25) #[.pointer (some ⟨w.heap.size, 0, none⟩)], #[]⟩] 0 0 a → dTail.wp Try.prog (bodyPostD Try.prog Try.f24 R) a (w.alloc (.cells #[.int .i64 0] 3))) :
    Calls Try.prog 24 #[.slice (some ⟨g, 0, none⟩) N Nc, .slice (some ⟨sb, so, none⟩) n nc, .slice da dn dc] w R := by
  have hmf : ∀ (fn : Fn) (first cap : Array Value) (w : World), (Instr.makeFunc fn first cap).run Try.prog w = .ok (.func fn first cap) w := fun _ _ _ _ => rfl
  refine calls_of_wp_defers Try.func24 dFront_eq ?_
  simp only [Try.ntmps24, List.size_toArray, List.length_cons, List.length_nil, Nat.reduceAdd, Nat.reduceSub, Array.replicate_succ,
     Array.replicate_zero, List.push_toArray, List.append_toArray, List.nil_append, List.cons_append]
  have d0 : decide ((n : Int) = 0) = false := by simp; omega
  refine wp_seq ?_
  conv => arg 2; whnf
  go_wp2
  conv => arg 2; whnf
  go_wp2
  conv => arg 2; whnf
  go_wp2
  conv => arg 2; whnf
  go_wp2
  conv => arg 2; whnf
  go_wp2
  conv => arg 2; whnf
  go_wp2
  exact h _ ⟨_, _, _, _, _, _, _, ⟨rfl, rfl, rfl, rfl, rfl, rfl, rfl, rfl, rfl, rfl, rfl, rfl, rfl, rfl, rfl⟩⟩
theorem res24 (tm : Array Value) (p : Addr) (x : Int) (w : World) (h : tm[6]? = some (.pointer (some p))) (hc : w.cell? p = some (.int .i64 x)) : (results Try.f24 tm).run Try.prog w = .ok (.int .i64 x) w := by
  simp [results, Try.results24, go_sem, h, hc]
theorem tail24 {g N sb so n dn dc rb : Nat} {da : Option Addr} {ds : List Deferred} {w : World} {Q : Exit → Act → World → Prop} {a : Act} (si di : Nat) (hA : AtI g N sb so n dn dc rb da ds si di a) (hdi : di ≤ 1099511627776) (hR : Slot w rb)
    (HN : Hid (∀ (tm : Array Value), tm[6]? = some (.pointer (some ⟨rb, 0, none⟩)) → Q .ret ⟨tm, ds⟩ (w.setCell ⟨rb, 0, none⟩ (.int .i64 (di : Int))))) :
    (seqR dTail).wp Try.prog Q a w := by
  obtain ⟨v9, v10, v12, v13, v18, v19, v20, hA⟩ := hA
  obtain ⟨⟨x, hc⟩, hz⟩ := hR
  obtain ⟨u, rfl⟩ := hA.opened
  clear hA
  conv => arg 2; whnf
  go_wp2
  exact HN.out _ rfl
theorem grown_setNew {a b : World} {row : Option Nat} (h : a.grownBy b row) (k : Nat) (u : Value) (hk : a.heap.size ≤ k) : a.grownBy (b.setCell ⟨k, 0, none⟩ u) row :=
  ⟨h.os, h.tape, h.output, by simpa [World.setCell] using h.size, fun i hi hr => by
    rw [heap_setCell_other b ⟨k, 0, none⟩ i u (by simp; omega)]
    exact h.block i hi hr⟩
/-- what the call answers -/
def Told (V : Nat → Int) (g N : Nat) (w : World) : Option (List Int) → Ending → World → Prop
  | none, e, w' => e = .returned (.int .i64 (-2)) ∧ w.grownBy w' (some g)
  | some out, e, w' => e = .returned (.int .i64 (out.length : Int)) ∧ w.grownBy w' (some g) ∧ out.length ≤ N ∧ ∃ V', Dst w' g N V' ∧ Holds V' out
theorem dec24 {g N Nc sb so n nc dn dc : Nat} {da : Option Addr} {w : World} {S D V : Nat → Int} {r : Option (List Int)} (h : Dec S D n dn N 0 [] r) (hn0 : 0 < n) (hn : n ≤ 1099511627776) (hN : N ≤ 1099511627776) (hNc : N ≤ Nc) (hnc : n ≤ nc)
    (hdn : dn ≤ 1099511627776) (hdc : dn ≤ dc) (hD : Dst w g N V) (hS : Src w sb so n S) (hsb : sb ≠ g) (hC : Dct w da dn g D) :
    Calls Try.prog 24 #[.slice (some ⟨g, 0, none⟩) N Nc, .slice (some ⟨sb, so, none⟩) n nc, .slice da dn dc] w (Told V g N w r) := by
  have hgl := Rowf.lt hD
  have hrb : w.heap.size ≠ g := by omega
  have hg0 : w.grownBy (w.alloc (.cells #[.int .i64 0] 3)) (some g) := grown_alloc (World.grownBy.refl _ _) _
  have hR0 : Slot (w.alloc (.cells #[.int .i64 0] 3)) w.heap.size := ⟨⟨0, by simp [go_sem]⟩, by simp [go_sem]⟩
  refine front24 hn0 hn hN hNc hnc fun a ha => ?_
  generalize hW : w.alloc (.cells #[.int .i64 0] 3) = W at hg0 hR0 ⊢
  have hD1 : Dst W g N V := by subst hW; exact Rowf.grown hD (World.grownBy_alloc w _ none) (by simp)
  have same : ∀ (w' : World) (v x : Int), w'.cell? ⟨w.heap.size, 0, none⟩ = some (.int .i64 x) → (w'.setCell ⟨w.heap.size, 0, none⟩ (.int .i64 v)).cell? ⟨w.heap.size, 0, none⟩ = some (.int .i64 v) := by
    intro w' v x hx
    exact World.cell?_setCell_same' w' _ _ (by rw [hx]; rfl)
  rw [dTail_eq]
  refine wp_seq (wp_block (wp_loop_rounds (n + 1) (loop_rounds hsb hrb hn hdn hdc hN h (n + 1) (by omega) (by omega) (by simp) ha hD1 (fun i hi => by simp at hi) (hS.grown hg0 hsb) (hC.grown hg0) hR0 ?_ ?_ ?_)))
  · intro out hr a1 w1 V1 ha1 hD2 hg1 hv hl
    show (seqR dTail).wp Try.prog _ a1 w1
    have hR1 := hR0.grown hg1 hrb
    refine tail24 n _ ha1 (by omega) hR1 (Lib.hid fun tm h6 => ?_)
    obtain ⟨⟨x, hc⟩, hz⟩ := hR1
    show Leaves _ _ _ _ _ _ _
    refine leaves_cons (f := 25) (args := #[.pointer (some ⟨w.heap.size, 0, none⟩)]) (by simp) (by simp [go_sem]) ?_
    refine (catch_idle ⟨w.heap.size, 0, none⟩ _).mono ?_
    rintro e u' w2 ⟨rfl, rfl, rfl⟩
    refine ⟨_, res24 tm _ _ _ h6 (same _ _ x hc), ?_⟩
    subst hr
    exact ⟨rfl, grown_setNew (grown_trans hg0 hg1) _ _ (Nat.le_refl _), hl, V1, Rowf.grown hD2 (grown_set (World.grownBy.refl _ _) 0 _) (by simpa using hrb.symm), hv⟩
  · intro hr v tm w1 hv h6 hg1
    have hR1 := hR0.grown hg1 hrb
    obtain ⟨⟨x, hc⟩, hz⟩ := hR1
    show Leaves _ _ _ _ _ _ _
    refine leaves_cons (f := 25) (args := #[.pointer (some ⟨w.heap.size, 0, none⟩)]) (by simp) (by simp [go_sem]) ?_
    refine (catch_panicking ⟨w.heap.size, 0, none⟩ x v hv [] _ hc hz).mono ?_
    rintro e u' w2 ⟨rfl, rfl, rfl⟩
    refine ⟨_, res24 tm _ _ _ h6 (same _ _ x hc), ?_⟩
    subst hr
    exact ⟨rfl, grown_setNew (grown_trans hg0 hg1) _ _ (Nat.le_refl _)⟩
  · intro hr tm w1 h6 hg1
    have hR1 := hR0.grown hg1 hrb
    obtain ⟨⟨x, hc⟩, hz⟩ := hR1
    show Leaves _ _ _ _ _ _ _
    refine leaves_cons (f := 25) (args := #[.pointer (some ⟨w.heap.size, 0, none⟩)]) (by simp) (by simp [go_sem]) ?_
    refine (catch_idle ⟨w.heap.size, 0, none⟩ _).mono ?_
    rintro e u' w2 ⟨rfl, rfl, rfl⟩
    refine ⟨_, res24 tm _ _ _ h6 (same _ _ x hc), ?_⟩
    subst hr
    exact ⟨rfl, grown_setNew (grown_trans hg0 hg1) _ _ (Nat.le_refl _)⟩
end Go.Proofs.Ytkfkbbablgbfoaa
