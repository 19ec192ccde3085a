/-
  The plain law, second part: the bytes that sequences are written as, and that they are read back as these sequences.
-/
import Derived.Test.YtkfkbbablgbfoaaLaw
import Derived.Test.YtkfkbbablgbfoaaTake
namespace Go.Proofs.Ytkfkbbablgbfoaa
set_option linter.unusedVariables false
def token (s : PStep) : Nat := min s.lits.length 15 * 16 + (if 0 < s.len then min (s.len - 4) 15 else 0)
def encStep (s : PStep) : List Int :=
  (token s : Int) :: (extra s.lits.length ++ (s.lits ++ (if 0 < s.len then ((s.far % 256 : Nat) : Int) :: ((s.far / 256 % 256 : Nat) : Int) :: extra (s.len - 4) else [])))
def written : List PStep → List Int
  | [] => []
  | s :: rest => encStep s ++ written rest
/-- the bytes xs stand at place a -/
def Stands (S : Nat → Int) (a : Nat) (xs : List Int) : Prop := ∀ j, j < xs.length → S (a + j) = xs.getD j 0
theorem Stands.append {S : Nat → Int} {a : Nat} {xs ys : List Int} (h : Stands S a (xs ++ ys)) : Stands S a xs ∧ Stands S (a + xs.length) ys := by
  constructor
  · intro j hj
    rw [h j (by simp; omega)]
    simp [List.getD_eq_getElem?_getD, List.getElem?_append_left hj]
  · intro j hj
    rw [Nat.add_assoc, h (xs.length + j) (by simp; omega)]
    simp [List.getD_eq_getElem?_getD, List.getElem?_append_right]
theorem Stands.cons {S : Nat → Int} {a : Nat} {x : Int} {ys : List Int} (h : Stands S a (x :: ys)) : S a = x ∧ Stands S (a + 1) ys := by
  constructor
  · exact h 0 (by simp)
  · intro j hj
    have h2 := h (j + 1) (by simp; omega)
    rw [show a + (j + 1) = a + 1 + j by omega] at h2
    simpa using h2
theorem Stands.slit {S : Nat → Int} {a : Nat} {xs : List Int} (h : Stands S a xs) : slit S a xs.length = xs := by
  refine List.ext_getElem (by simp [slit_length]) fun i h1 h2 => ?_
  simp only [Go.Proofs.Ytkfkbbablgbfoaa.slit, List.getElem_map, List.getElem_range]
  rw [h i h2]
  simp [List.getD_eq_getElem?_getD, List.getElem?_eq_getElem h2]
theorem lenOk_extra {S : Nat → Int} {n a k c : Nat} (h : Stands S a (extra k)) (hn : a + (extra k).length ≤ n) : LenOk S n a (min k 15 + c) (15 + c) (a + (extra k).length) (k + c) := by
  unfold extra at h hn ⊢
  by_cases hk : k < 15
  · rw [if_pos hk]
    exact Or.inl ⟨by omega, by omega, by simp⟩
  · rw [if_neg hk] at h hn ⊢
    obtain ⟨h1, h2⟩ := h.append
    simp only [List.length_replicate] at h2
    have h3 := h2 0 (by simp)
    refine Or.inr ⟨by omega, (k - 15) / 255, (k - 15) % 255, ⟨fun j hj => ?_, ?_, Nat.mod_lt _ (by omega), ?_⟩, by omega, by simp; omega⟩
    · rw [h1 j (by simpa using hj)]
      simp [List.getD_eq_getElem?_getD, hj]
    · simpa using h3
    · simp at hn
      omega
/-- sequences as a block may have them -/
def WellMade : List PStep → Prop
  | [] => False
  | [s] => s.len = 0 ∧ s.far = 0
  | s :: rest => 4 ≤ s.len ∧ 0 < s.far ∧ s.far < 65536 ∧ WellMade rest
theorem read_block {S : Nat → Int} {n : Nat} : ∀ (l : List PStep) (a : Nat), WellMade l → Stands S a (written l) → a + (written l).length = n → Read S n a l 0
  | [], _, h, _, _ => h.elim
  | [s], a, h, hS, hn => by
    obtain ⟨lits, far, len⟩ := s
    obtain ⟨rfl, rfl⟩ := h
    simp only [written, encStep, Nat.lt_irrefl, if_false, List.append_nil] at hS hn
    obtain ⟨h1, h2⟩ := hS.cons
    obtain ⟨h3, h4⟩ := h2.append
    simp only [List.length_cons, List.length_append] at hn
    have h5 := lenOk_extra (n := n) (c := 0) h3 (by omega)
    have ht : token ⟨lits, 0, 0⟩ = min lits.length 15 * 16 := by simp [token]
    have h6 := Read.last (S := S) (n := n) (si := a) (token ⟨lits, 0, 0⟩) _ _ (by omega) h1 (by rw [ht, Nat.mul_div_cancel _ (by omega)]; exact h5) (by omega) (by rw [ht]; omega)
    simp only [Nat.add_zero] at h6
    rw [h4.slit] at h6
    exact h6
  | s :: s2 :: rest, a, h, hS, hn => by
    obtain ⟨h4, hf1, hf2, hrest⟩ := h
    obtain ⟨lits, far, len⟩ := s
    simp only at h4 hf1 hf2
    have hp : 0 < len := by omega
    rw [written] at hS hn
    simp only [encStep, hp, if_true] at hS hn
    obtain ⟨g1, g2⟩ := hS.append
    obtain ⟨h1, h2⟩ := g1.cons
    obtain ⟨h3, h5⟩ := h2.append
    obtain ⟨h6, h7⟩ := h5.append
    obtain ⟨h8, h9⟩ := h7.cons
    obtain ⟨h10, h11⟩ := h9.cons
    simp only [List.length_cons, List.length_append] at hn g2
    have l1 := lenOk_extra (n := n) (c := 0) h3 (by omega)
    have l2 := lenOk_extra (n := n) (c := 4) h11 (by omega)
    have ht : token ⟨lits, far, len⟩ = min lits.length 15 * 16 + min (len - 4) 15 := by simp [token, hp]
    have hd : token ⟨lits, far, len⟩ / 16 = min lits.length 15 := by rw [ht]; omega
    have hm : token ⟨lits, far, len⟩ % 16 = min (len - 4) 15 := by rw [ht]; omega
    have ih := read_block (S := S) (n := n) (s2 :: rest) _ hrest g2 (by omega)
    have h12 := Read.next (S := S) (n := n) (si := a) (rest := s2 :: rest) (st := 0) (token ⟨lits, far, len⟩) (a + 1 + (extra lits.length).length) lits.length
      (a + (extra lits.length).length + lits.length + (extra (len - 4)).length + 3) far len (by omega) h1 (by rw [hd]; exact l1) (by omega) ?_ hf1 ?_ ?_
    · rw [h6.slit] at h12
      exact h12
    · rw [h8, h10]
      omega
    · rw [hm]
      have e : len - 4 + 4 = len := by omega
      rw [e] at l2
      have e2 : a + 1 + (extra lits.length).length + lits.length + 1 + 1 = a + 1 + (extra lits.length).length + lits.length + 2 := by omega
      rw [e2] at l2
      have e3 : a + 1 + (extra lits.length).length + lits.length + 2 + (extra (len - 4)).length = a + (extra lits.length).length + lits.length + (extra (len - 4)).length + 3 := by omega
      rw [e3] at l2
      exact l2
    · have e4 : a + (((extra lits.length).length + (lits.length + ((extra (len - 4)).length + 1 + 1))) + 1) = a + (extra lits.length).length + lits.length + (extra (len - 4)).length + 3 := by omega
      rw [e4] at ih
      exact ih
end Go.Proofs.Ytkfkbbablgbfoaa
