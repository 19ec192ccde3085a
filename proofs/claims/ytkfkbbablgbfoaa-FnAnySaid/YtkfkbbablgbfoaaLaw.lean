/-
  The plain law: what a block tells as sequences (Read), the bytes that sequences tell (told), and that the decoder's relation (Dec) follows them. No program in sight.
-/
import Derived.Test.YtkfkbbablgbfoaaLoop
namespace Go.Proofs.Ytkfkbbablgbfoaa
set_option linter.unusedVariables false
structure PStep where
  lits : List Int
  far : Nat
  len : Nat
def slit (S : Nat → Int) (a L : Nat) : List Int := (List.range L).map fun j => S (a + j)
/-- a block read as sequences, as the reference does; 0 good, 1 bad, 2 open -/
inductive Read (S : Nat → Int) (n : Nat) : Nat → List PStep → Nat → Prop
  | over : Read S n n [] 2
  | litBad {si} (b : Nat) (h1 : si < n) (h2 : S si = (b : Int)) (h3 : LenBad S n (si + 1) (b / 16) 15 ∨ ∃ si' L, LenOk S n (si + 1) (b / 16) 15 si' L ∧ n < si' + L) : Read S n si [] 1
  | openEnd {si} (b si' L : Nat) (h1 : si < n) (h2 : S si = (b : Int)) (h3 : LenOk S n (si + 1) (b / 16) 15 si' L) (h4 : si' + L = n) (h5 : b % 16 ≠ 0) : Read S n si [] 2
  | last {si} (b si' L : Nat) (h1 : si < n) (h2 : S si = (b : Int)) (h3 : LenOk S n (si + 1) (b / 16) 15 si' L) (h4 : si' + L = n) (h5 : b % 16 = 0) : Read S n si [⟨slit S si' L, 0, 0⟩] 0
  | matchBad {si} (b si' L : Nat) (h1 : si < n) (h2 : S si = (b : Int)) (h3 : LenOk S n (si + 1) (b / 16) 15 si' L) (h4 : si' + L < n)
      (h5 : si' + L + 1 = n ∨ (si' + L + 1 < n ∧ ∃ o : Nat, S (si' + L) + 256 * S (si' + L + 1) = (o : Int) ∧ (o = 0 ∨ LenBad S n (si' + L + 2) (b % 16 + 4) 19))) : Read S n si [] 1
  | next {si rest st} (b si' L si2 o m : Nat) (h1 : si < n) (h2 : S si = (b : Int)) (h3 : LenOk S n (si + 1) (b / 16) 15 si' L) (h4 : si' + L + 1 < n) (h5 : S (si' + L) + 256 * S (si' + L + 1) = (o : Int)) (h6 : 0 < o)
      (h7 : LenOk S n (si' + L + 2) (b % 16 + 4) 19 si2 m) (h8 : Read S n si2 rest st) : Read S n si (⟨slit S si' L, o, m⟩ :: rest) st
/-- the bytes that sequences tell behind 'out'; none where a match stands ahead of the dictionary -/
def told (D : Nat → Int) (dn : Nat) : List PStep → List Int → Option (List Int)
  | [], out => some out
  | s :: rest, out => if 0 < s.len ∧ dn + (out ++ s.lits).length < s.far then none else told D dn rest (repeated D dn s.far s.len (out ++ s.lits))
def tot : List PStep → Nat
  | [] => 0
  | s :: rest => s.lits.length + s.len + tot rest
/-- there is room at each place -/
def Fits (N : Nat) : List PStep → Nat → Prop
  | [], _ => True
  | [s], d => d + s.lits.length ≤ N
  | s :: rest, d => d + 16 ≤ N ∧ d + s.lits.length + s.len ≤ N ∧ Fits N rest (d + s.lits.length + s.len)
theorem slit_length (S : Nat → Int) (a L : Nat) : (slit S a L).length = L := by simp [slit]
theorem lenOk_pos {S : Nat → Int} {n si base lim si' L : Nat} (h : LenOk S n si base lim si' L) : base ≤ L ∧ (0 < base → 0 < L) := by
  rcases h with ⟨_, rfl, _⟩ | ⟨rfl, k, e, _, rfl, _⟩ <;> omega
/-- where there is room and no match stands ahead, the decoder unpacks what is told -/
theorem dec_good {S D : Nat → Int} {n dn N : Nat} {si : Nat} {l : List PStep} {st : Nat} (h : Read S n si l st) : ∀ {out x : List Int}, st = 0 → Fits N l out.length → told D dn l out = some x → Dec S D n dn N si out (some x) := by
  induction h with
  | over => intro out x h0; omega
  | litBad => intro out x h0; omega
  | openEnd => intro out x h0; omega
  | matchBad => intro out x h0; omega
  | @last si b si' L h1 h2 h3 h4 h5 =>
    intro out x _ hf ht
    simp only [told, repeated, Nat.lt_irrefl, false_and, if_false, Option.some.injEq] at ht
    subst ht
    refine Dec.fin b si' L h1 h2 ⟨h3, by omega, by simpa [Fits, slit_length] using hf, fun _ _ h => by omega⟩ h4 h5
  | @next si rest st b si' L si2 o m h1 h2 h3 h4 h5 h6 h7 h8 ih =>
    intro out x h0 hf ht
    have hm : 0 < m := (lenOk_pos h7).2 (by omega)
    cases rest with
    | nil => cases h8 <;> omega
    | cons s2 r2 =>
      simp only [Fits, slit_length] at hf
      rw [told] at ht
      by_cases hbad : 0 < m ∧ dn + (out ++ slit S si' L).length < o
      · rw [if_pos hbad] at ht
        simp at ht
      · rw [if_neg hbad] at ht
        have hbad2 : o ≤ dn + (out.length + L) := by
          simp only [List.length_append, slit_length] at hbad
          omega
        refine Dec.next b si' L si2 o m h1 h2 ⟨h3, by omega, by omega, fun _ _ _ => hf.1⟩ ⟨h4, h5, h6, h7, hbad2, by omega⟩ (ih h0 ?_ ht)
        rw [repeated_length, List.length_append, List.length_map, List.length_range]
        exact hf.2.2
/-- the decoder unpacks just what is told, or refuses -/
theorem dec_any {S D : Nat → Int} {n dn N : Nat} {si : Nat} {l : List PStep} {st : Nat} (h : Read S n si l st) : ∀ {out : List Int}, st ≠ 2 → out.length ≤ N →
    Dec S D n dn N si out none ∨ ∃ x, st = 0 ∧ out.length + tot l ≤ N ∧ told D dn l out = some x ∧ Dec S D n dn N si out (some x) := by
  induction h with
  | over => intro out h0; omega
  | openEnd => intro out h0; omega
  | @litBad si b h1 h2 h3 =>
    intro out _ ho
    refine Or.inl (Dec.litBad b h1 h2 ?_)
    rcases h3 with h3 | ⟨si', L, h4, h5⟩
    · exact Or.inl h3
    · by_cases hL : 0 < L
      · exact Or.inr ⟨si', L, h4, hL, Or.inl h5⟩
      · have := lenOk_le h4 (by omega)
        omega
  | @matchBad si b si' L h1 h2 h3 h4 h5 =>
    intro out _ ho
    by_cases hl : LitOk S n N out.length b (si + 1) si' L
    · refine Or.inl (Dec.matchBad b si' L h1 h2 hl ?_)
      rcases h5 with h5 | ⟨h5, o, h6, h7⟩
      · exact Or.inr (Or.inl h5)
      · refine Or.inr (Or.inr ⟨h5, o, h6, ?_⟩)
        by_cases h0 : o = 0
        · exact Or.inl h0
        · exact Or.inr ⟨by omega, Or.inl (h7.resolve_left h0)⟩
    · refine Or.inl (Dec.litBad b h1 h2 (Or.inr ⟨si', L, h3, ?_⟩))
      have hn : ¬ (si' + L ≤ n ∧ out.length + L ≤ N ∧ (0 < L → L ≤ 16 → si' + 16 < n → out.length + 16 ≤ N)) := fun hh => hl ⟨h3, hh⟩
      omega
  | @last si b si' L h1 h2 h3 h4 h5 =>
    intro out _ ho
    by_cases hl : LitOk S n N out.length b (si + 1) si' L
    · exact Or.inr ⟨_, rfl, by simpa [tot, slit_length] using hl.2.2.1, rfl, Dec.fin b si' L h1 h2 hl h4 h5⟩
    · refine Or.inl (Dec.litBad b h1 h2 (Or.inr ⟨si', L, h3, ?_⟩))
      have hn : ¬ (si' + L ≤ n ∧ out.length + L ≤ N ∧ (0 < L → L ≤ 16 → si' + 16 < n → out.length + 16 ≤ N)) := fun hh => hl ⟨h3, hh⟩
      omega
  | @next si rest st b si' L si2 o m h1 h2 h3 h4 h5 h6 h7 h8 ih =>
    intro out h0 ho
    by_cases hl : LitOk S n N out.length b (si + 1) si' L
    · by_cases hm : o ≤ dn + (out.length + L) ∧ out.length + L + m ≤ N
      · rcases ih (out := repeated D dn o m (out ++ slit S si' L)) h0 (by rw [repeated_length, List.length_append, slit_length]; omega) with hd | ⟨x, e1, e2, e3, e4⟩
        · exact Or.inl (Dec.next b si' L si2 o m h1 h2 hl ⟨h4, h5, h6, h7, hm.1, hm.2⟩ hd)
        · refine Or.inr ⟨x, e1, ?_, ?_, Dec.next b si' L si2 o m h1 h2 hl ⟨h4, h5, h6, h7, hm.1, hm.2⟩ e4⟩
          · rw [repeated_length, List.length_append, slit_length] at e2
            simp only [tot, slit_length]
            omega
          · rw [told, if_neg (by simp only [List.length_append, slit_length]; omega)]
            exact e3
      · exact Or.inl (Dec.matchBad b si' L h1 h2 hl (Or.inr (Or.inr ⟨h4, o, h5, Or.inr ⟨h6, Or.inr ⟨si2, m, h7, by omega⟩⟩⟩)))
    · refine Or.inl (Dec.litBad b h1 h2 (Or.inr ⟨si', L, h3, ?_⟩))
      have hn : ¬ (si' + L ≤ n ∧ out.length + L ≤ N ∧ (0 < L → L ≤ 16 → si' + 16 < n → out.length + 16 ≤ N)) := fun hh => hl ⟨h3, hh⟩
      omega
end Go.Proofs.Ytkfkbbablgbfoaa
