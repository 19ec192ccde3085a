/-
  The loop of decodeBlockGo, taken apart: its pieces as codes of their own, and what the pieces are told of memory.
-/
import Derived.Test.YtkfkbbablgbfoaaDec1
import Derived.BigRegion
import Derived.Deep.RegionHeld3
namespace Go.Proofs.Ytkfkbbablgbfoaa
open Go.RowKit
set_option linter.unusedVariables false
def seqL : Code → Code | .seq a _ => a | c => c
def seqR : Code → Code | .seq _ b => b | c => c
def loopOf : Code → Code | .loop c => c | c => c
def blockOf : Code → Code | .block _ c => c | c => c
def condT : Code → Code | .cond _ a _ => a | c => c
def condF : Code → Code | .cond _ _ b => b | c => c
noncomputable def dWhole : Code := (Try.f24.body).getD .skip
noncomputable def dTail : Code := seqR (seqR (seqR (seqR (seqR (seqR dWhole)))))
noncomputable def dLoop : Code := loopOf (blockOf (seqL dTail))
noncomputable def dBody : Code := blockOf (seqR dLoop)
noncomputable def dLit : Code := seqL (seqR (seqR dBody))
noncomputable def dMatch : Code := seqR (seqR (seqR dBody))
noncomputable def dLitX : Code := condT (seqR (seqR dLit))
noncomputable def dCopy1 : Code := seqR dLitX
/-- the loop over the bytes that lengthen the literals: its body -/
noncomputable def dExt1 : Code := condT (seqR (seqL dLitX))
noncomputable def dExt1B : Code := loopOf (blockOf dExt1)
/-- behind the token: the match -/
noncomputable def dM2 : Code := seqR (seqR dMatch)
noncomputable def dM4 : Code := seqR (seqR (seqR (seqR dM2)))
noncomputable def dP1 : Code := seqL dM4
noncomputable def dP2 : Code := seqR dM4
noncomputable def dExt2 : Code := condT (seqR (condF (seqR dP1)))
noncomputable def dExt2B : Code := loopOf (blockOf dExt2)
noncomputable def dDict : Code := seqL dP2
noncomputable def dExp : Code := seqL (seqR dP2)
noncomputable def dDbl : Code := seqL (seqR (seqR dP2))
noncomputable def dLast : Code := seqR (seqR (seqR dP2))
noncomputable def dDblX : Code := condT (seqR dDbl)
noncomputable def dDblL : Code := seqR (seqL (seqR dDblX))
noncomputable def dDblB : Code := loopOf (blockOf dDblL)
/-- the bytes of the block -/
def Src (w : World) (sb so n : Nat) (S : Nat → Int) : Prop := (∀ i, i < n → w.cell? ⟨sb, so + i, none⟩ = some (.int .u8 (S i))) ∧ ∀ i, 0 ≤ S i ∧ S i ≤ 255
/-- the bytes of the destination -/
def Dst (w : World) (g N : Nat) (V : Nat → Int) : Prop := Rowf w g 5 N (fun i => .int .u8 (V i))
theorem Src.grown {w w' : World} {sb so n g : Nat} {S : Nat → Int} (h : Src w sb so n S) (hg : w.grownBy w' (some g)) (hne : sb ≠ g) : Src w' sb so n S :=
  ⟨fun i hi => grown_cell hg (h.1 i hi) (by intro e; exact hne (Option.some.inj e)), h.2⟩
/-- the bytes of the dictionary -/
def Dct (w : World) (da : Option Addr) (dn g : Nat) (D : Nat → Int) : Prop := 0 < dn → ∃ b d, da = some ⟨b, d, none⟩ ∧ b ≠ g ∧ ∀ i, i < dn → w.cell? ⟨b, d + i, none⟩ = some (.int .u8 (D i))
theorem Dct.grown {w w' : World} {da : Option Addr} {dn g : Nat} {D : Nat → Int} (h : Dct w da dn g D) (hg : w.grownBy w' (some g)) : Dct w' da dn g D := by
  intro hp
  obtain ⟨b, d, h1, h2, h3⟩ := h hp
  exact ⟨b, d, h1, h2, fun i hi => grown_cell hg (h3 i hi) (by intro e; exact h2 (Option.some.inj e))⟩
/-- a copy into the destination: what it leaves -/
theorem copy_dst {w : World} {g N off m dc2 sc : Nat} {V E : Nat → Int} {A1 A2 : Option Addr} {dl sl : Nat} (hD : Dst w g N V) (hm : m = min sl dl)
    (h1 : 0 < m → A1 = some ⟨g, off, none⟩) (h2 : 0 < m → ∃ b so, A2 = some ⟨b, so, none⟩ ∧ ∀ j, j < m → w.cell? ⟨b, so + j, none⟩ = some (.int .u8 (E j))) (hfit : off + m ≤ N) :
    ∃ w' V', (Builtin.copy_ #[22, 22] 3 #[.slice A1 dl dc2, .slice A2 sl sc]).run Try.prog w.drew = .ok (.int .i64 (m : Int)) w' ∧ Dst w' g N V' ∧ w.grownBy w' (some g) ∧ (∀ i, i < off → V' i = V i) ∧ (∀ j, j < m → V' (off + j) = E j) := by
  obtain ⟨w', h3, h4, h5⟩ := run_copy_view (P := Try.prog) (w := w.drew) 22 22 3 5 Try.underlying22 cells5 A1 A2 dl dc2 sl sc g off 5 N m _ (fun j => .int .u8 (E j)) (show Rowf w.drew g 5 N _ from hD) hm
    (fun hp => ⟨h1 hp, h2 hp⟩) hfit (fun _ _ => rfl)
  refine ⟨w', fun i => if off ≤ i ∧ i < off + m then E (i - off) else V i, h3, Rowf.congr h4 (fun i _ => ?_), ⟨h5.os, h5.tape, h5.output, h5.size, h5.block⟩, ?_, ?_⟩
  · unfold upd
    by_cases hh : off ≤ i ∧ i < off + m
    · simp only [if_pos hh]
    · simp only [if_neg hh]
  · intro i hi
    show (if _ then _ else _) = _
    rw [if_neg (by omega)]
  · intro j hj
    show (if _ then _ else _) = _
    rw [if_pos (by omega)]
    congr 1; omega
/-- the same outside a region that draws -/
theorem copy_dst0 {w : World} {g N off m dc2 sc : Nat} {V E : Nat → Int} {A1 A2 : Option Addr} {dl sl : Nat} (hD : Dst w g N V) (hm : m = min sl dl)
    (h1 : 0 < m → A1 = some ⟨g, off, none⟩) (h2 : 0 < m → ∃ b so, A2 = some ⟨b, so, none⟩ ∧ ∀ j, j < m → w.cell? ⟨b, so + j, none⟩ = some (.int .u8 (E j))) (hfit : off + m ≤ N) :
    ∃ w' V', (Builtin.copy_ #[22, 22] 3 #[.slice A1 dl dc2, .slice A2 sl sc]).run Try.prog w = .ok (.int .i64 (m : Int)) w' ∧ Dst w' g N V' ∧ w.grownBy w' (some g) ∧ (∀ i, i < off → V' i = V i) ∧ (∀ j, j < m → V' (off + j) = E j) := by
  obtain ⟨w', h3, h4, h5⟩ := run_copy_view (P := Try.prog) (w := w) 22 22 3 5 Try.underlying22 cells5 A1 A2 dl dc2 sl sc g off 5 N m _ (fun j => .int .u8 (E j)) hD hm
    (fun hp => ⟨h1 hp, h2 hp⟩) hfit (fun _ _ => rfl)
  refine ⟨w', fun i => if off ≤ i ∧ i < off + m then E (i - off) else V i, h3, Rowf.congr h4 (fun i _ => ?_), h5, ?_, ?_⟩
  · unfold upd
    by_cases hh : off ≤ i ∧ i < off + m
    · simp only [if_pos hh]
    · simp only [if_neg hh]
  · intro i hi
    show (if _ then _ else _) = _
    rw [if_neg (by omega)]
  · intro j hj
    show (if _ then _ else _) = _
    rw [if_pos (by omega)]
    congr 1; omega
/-- what a piece promises where it dies or gives up: the post is told so -/
def DiesTo (Q : Exit → Act → World → Prop) (ds : List Deferred) (rb g : Nat) (w : World) : Prop :=
  ∀ (v : Value) (tm : Array Value) (w' : World), Raised v → tm[6]? = some (.pointer (some ⟨rb, 0, none⟩)) → w.grownBy w' (some g) → Q (.panic [{ v := v, recovered := false }]) ⟨tm, ds⟩ w'
def QuitsTo (Q : Exit → Act → World → Prop) (ds : List Deferred) (rb g : Nat) (w : World) : Prop :=
  ∀ (tm : Array Value) (w' : World), tm[6]? = some (.pointer (some ⟨rb, 0, none⟩)) → w.grownBy w' (some g) → Q .ret ⟨tm, ds⟩ (w'.setCell ⟨rb, 0, none⟩ (.int .i64 (-2)))
/-- the cell of the result -/
def Slot (w : World) (rb : Nat) : Prop := (∃ x, w.cell? ⟨rb, 0, none⟩ = some (.int .i64 x)) ∧ w.frozen? ⟨rb, 0, none⟩ = false
/-- Q, but a panic is told by the world, the result's slot and the deferred calls alone -/
def Calm (Q : Exit → Act → World → Prop) (R : List PanicEntry → World → Prop) (p : Value) (ds : List Deferred) : Exit → Act → World → Prop
  | .panic c, a, w => R c w ∧ a.tmps[6]? = some p ∧ a.defers = ds
  | e, a, w => Q e a w
theorem Calm.keep {Q : Exit → Act → World → Prop} {R : List PanicEntry → World → Prop} {p : Value} {ds : List Deferred} {d : Tmp} {v : Value} (hd : 6 ≠ d) :
    ∀ c a w, Calm Q R p ds (.panic c) (a.put (some d) v) w → Calm Q R p ds (.panic c) a w := by
  rintro c ⟨t, e⟩ w ⟨h1, h2, h3⟩
  refine ⟨h1, ?_, h3⟩
  have h4 : (t.setIfInBounds d v)[6]? = some p := h2
  rw [Array.getElem?_setIfInBounds_ne (Ne.symm hd)] at h4
  exact h4
theorem wp_calm {c : Code} {Q : Exit → Act → World → Prop} {R : List PanicEntry → World → Prop} {p : Value} {ds : List Deferred} {a : Act} {w : World} (h : c.wp Try.prog (Calm Q R p ds) a w)
    (hQ : ∀ c a w, R c w → a.tmps[6]? = some p → a.defers = ds → Q (.panic c) a w) : c.wp Try.prog Q a w :=
  Code.wp_mono (fun e a w he => by
    cases e <;> first | exact he | exact hQ _ _ _ he.1 he.2.1 he.2.2) h
/-- what a dying piece leaves -/
def Raises (w : World) (g : Nat) (c : List PanicEntry) (w' : World) : Prop := ∃ v, Raised v ∧ c = [{ v := v, recovered := false }] ∧ w.grownBy w' (some g)
theorem calm_dies {Q : Exit → Act → World → Prop} {ds : List Deferred} {rb g : Nat} {w : World} (h : DiesTo Q ds rb g w) (c : List PanicEntry) (a : Act) (w' : World)
    (h1 : Raises w g c w') (h2 : a.tmps[6]? = some (.pointer (some ⟨rb, 0, none⟩))) (h3 : a.defers = ds) : Q (.panic c) a w' := by
  obtain ⟨v, hv, rfl, hg⟩ := h1
  obtain ⟨t, d⟩ := a
  cases h3
  exact h v t w' hv h2 hg
theorem wrap_u64 (x : Int) (h0 : 0 ≤ x) (h1 : x < 18446744073709551616) : IntKind.u64.wrap x = x := by
  simp [IntKind.wrap, IntKind.bits, IntKind.signed]
  omega
theorem grown_drew1 (w : World) (row : Option Nat) : w.grownBy w.drew row := ⟨rfl, rfl, rfl, Nat.le_refl _, fun _ _ _ => rfl⟩
end Go.Proofs.Ytkfkbbablgbfoaa
