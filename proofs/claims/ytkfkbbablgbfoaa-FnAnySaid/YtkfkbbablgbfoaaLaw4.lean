/-
  The plain law, fourth part: the steps of stepsOf: what they tell, that their block is unpacked so, and that into less room it is not. The walks of laws.FnUncompress's callees joined to it.
-/
import Derived.Test.YtkfkbbablgbfoaaMake
import Derived.Test.YtkfkbbablgbfoaaIs
namespace Go.Proofs.Ytkfkbbablgbfoaa
open Go.RowKit
set_option linter.unusedVariables false
theorem plain_told {D : Nat → Int} {dn most : Nat} : ∀ (l : List PStep) (out y : List Int), told D dn l out = some y → y.length ≤ most → plain D dn most l out = some y ∧ out.length ≤ y.length
  | [], out, y, h, hm => by
    rw [told] at h
    cases h
    exact ⟨rfl, Nat.le_refl _⟩
  | s :: rest, out, y, h, hm => by
    rw [told] at h
    by_cases hb : 0 < s.len ∧ dn + (out ++ s.lits).length < s.far
    · rw [if_pos hb] at h
      cases h
    · rw [if_neg hb] at h
      obtain ⟨h1, h2⟩ := plain_told rest _ y h hm
      rw [repeated_length] at h2
      refine ⟨?_, by simp at h2; omega⟩
      rw [plain, if_neg (by omega)]
      exact h1
theorem tot_mk (T : Nat → Int) (q : Nat) : ∀ (vs : List Nat) (n x : Nat), tot (mk T q vs n x) ≤ vs.length * 1103 + q
  | [], n, x => by simp [mk, tot, slit_length]
  | v :: vs, n, x => by
    have h1 := tot_mk T q vs (n + litn v n + mlen v) (x + litn v n)
    have h2 := litn_le v n
    have h3 := mlen_le v
    rw [mk, tot]
    simp only [slit_length, List.length_cons]
    omega
theorem mk_length (T : Nat → Int) (q : Nat) : ∀ (vs : List Nat) (n x : Nat), (mk T q vs n x).length = vs.length + 1
  | [], n, x => rfl
  | v :: vs, n, x => by rw [mk, List.length_cons, mk_length T q vs]; simp
theorem slit_mem {T : Nat → Int} (hT : ∀ i, 0 ≤ T i ∧ T i ≤ 255) {x k : Nat} {u : Int} (h : u ∈ slit T x k) : 0 ≤ u ∧ u ≤ 255 := by
  unfold slit at h
  obtain ⟨j, _, rfl⟩ := List.mem_map.1 h
  exact hT _
theorem mk_step (T : Nat → Int) (q : Nat) (hq : q ≤ 1000) (hT : ∀ i, 0 ≤ T i ∧ T i ≤ 255) : ∀ (vs : List Nat) (n x : Nat), ∀ s ∈ mk T q vs n x, s.lits.length ≤ 1000000 ∧ s.len ≤ 1000000 ∧ s.far < 65536 ∧ (0 < s.len → 0 < s.far) ∧ ∀ u ∈ s.lits, 0 ≤ u ∧ u ≤ 255
  | [], n, x, s, hs => by
    rw [mk] at hs
    obtain rfl := List.mem_singleton.1 hs
    refine ⟨by simp only [slit_length]; omega, Nat.zero_le _, by simp only; omega, fun h => h, fun u hu => slit_mem hT hu⟩
  | v :: vs, n, x, s, hs => by
    rw [mk] at hs
    rcases List.mem_cons.1 hs with rfl | hs
    · have h2 := litn_le v n
      have h3 := mlen_le v
      have h4 := sfar_le v (n + litn v n) (litn_pos v n)
      refine ⟨by simp only [slit_length]; omega, by simp only; omega, h4.2.2, fun _ => h4.1, fun u hu => slit_mem hT hu⟩
    · exact mk_step T q hq hT vs _ _ s hs
theorem extra_range (k : Nat) : ∀ u ∈ extra k, 0 ≤ u ∧ u ≤ 255 := by
  intro u hu
  unfold extra at hu
  split at hu
  · cases hu
  · rcases List.mem_append.1 hu with hu | hu
    · rw [(List.mem_replicate.1 hu).2]
      omega
    · rw [List.mem_singleton.1 hu]
      omega
theorem encStep_range (s : PStep) (h : ∀ u ∈ s.lits, 0 ≤ u ∧ u ≤ 255) : ∀ u ∈ encStep s, 0 ≤ u ∧ u ≤ 255 := by
  intro u hu
  unfold encStep at hu
  rcases List.mem_cons.1 hu with rfl | hu
  · have : token s ≤ 255 := by unfold token; split <;> omega
    omega
  · rcases List.mem_append.1 hu with hu | hu
    · exact extra_range _ u hu
    · rcases List.mem_append.1 hu with hu | hu
      · exact h u hu
      · split at hu
        · rcases List.mem_cons.1 hu with rfl | hu
          · omega
          · rcases List.mem_cons.1 hu with rfl | hu
            · omega
            · exact extra_range _ u hu
        · cases hu
theorem written_range : ∀ (l : List PStep), (∀ s ∈ l, ∀ u ∈ s.lits, 0 ≤ u ∧ u ≤ 255) → ∀ u ∈ written l, 0 ≤ u ∧ u ≤ 255
  | [], _, u, hu => by cases hu
  | s :: rest, h, u, hu => by
    rw [written] at hu
    rcases List.mem_append.1 hu with hu | hu
    · exact encStep_range s (h s (List.mem_cons_self ..)) u hu
    · exact written_range rest (fun t ht => h t (List.mem_cons_of_mem _ ht)) u hu
theorem getD_range {xs : List Int} (h : ∀ u ∈ xs, 0 ≤ u ∧ u ≤ 255) (i : Nat) : 0 ≤ xs.getD i 0 ∧ xs.getD i 0 ≤ 255 := by
  rw [List.getD_eq_getElem?_getD]
  cases hi : xs[i]? with
  | none => simp
  | some u => exact h u (List.mem_of_getElem? hi)
theorem stream_range {Z : Nat → Int} {m : Nat} (hZ : ∀ i, 0 ≤ Z i ∧ Z i ≤ 255) (i : Nat) : 0 ≤ streamAt Z m i ∧ streamAt Z m i ≤ 255 := by
  unfold streamAt
  split
  · omega
  · exact hZ _
/-- all that the laws want of the steps that stepsOf makes -/
structure Lawful (l : List PStep) (D : Nat → Int) (dn : Nat) (y : List Int) : Prop where
  len : 0 < l.length ∧ l.length ≤ 21
  step : ∀ (i : Nat) (s : PStep), l[i]? = some s → s.lits.length ≤ 1000000 ∧ s.len ≤ 1000000 ∧ s.far < 65536 ∧ (0 < s.len → 0 < s.far)
  ylen : y.length ≤ 30000
  plain : plain D dn 16777216 l [] = some y
  range : ∀ i, 0 ≤ (written l).getD i 0 ∧ (written l).getD i 0 ≤ 255
  wlen : 0 < (written l).length ∧ (written l).length ≤ 1000000000
  good : ∀ N, y.length ≤ N → Dec (fun i => (written l).getD i 0) D (written l).length dn N 0 [] (some y)
  short : ∀ N, N < y.length → Dec (fun i => (written l).getD i 0) D (written l).length dn N 0 [] none
  ypos : 12 ≤ y.length
theorem lawful {Z : Nat → Int} {m : Nat} (hZ : ∀ i, 0 ≤ Z i ∧ Z i ≤ 255) (N : Nat → Int) (nl : Nat) (D : Nat → Int) (dn : Nat) : ∃ y, Lawful (made Z m N nl dn) D dn y := by
  unfold made
  have hT := stream_range (m := m) hZ
  generalize streamAt Z m = T at hT ⊢
  obtain ⟨vs, hvs⟩ : ∃ vs : List Nat, vs = (List.range (min nl 20)).map fun i => (N i).toNat := ⟨_, rfl⟩
  have hvl : vs.length ≤ 20 := by rw [hvs]; simp; omega
  rw [← hvs]
  clear hvs
  obtain ⟨q, hq⟩ : ∃ q, q = 12 + nl % 9 := ⟨_, rfl⟩
  rw [← hq]
  have hq1 : 12 ≤ q ∧ q ≤ 20 := by omega
  obtain ⟨y, h1, h2⟩ := mk_told T D dn q vs dn 0 [] (by simp)
  have h3 := tot_mk T q vs dn 0
  have h4 := mk_tot T q vs dn 0
  have h5 := mk_length T q vs dn 0
  have h6 := mk_step T q (by omega) hT vs dn 0
  have h7 := mk_well T q vs dn 0
  have hfits := fun (M d : Nat) => mk_fits T q M hq1.1 vs dn 0 d
  generalize mk T q vs dn 0 = l at h1 h2 h3 h4 h5 h6 h7 hfits ⊢
  simp only [List.length_nil, Nat.zero_add] at h2
  have hst : Stands (fun i => (written l).getD i 0) 0 (written l) := fun j hj => by simp
  have hread := read_block (S := fun i => (written l).getD i 0) (n := (written l).length) l 0 h7 hst (by simp)
  have hstep : ∀ (i : Nat) (s : PStep), l[i]? = some s → s.lits.length ≤ 1000000 ∧ s.len ≤ 1000000 ∧ s.far < 65536 ∧ (0 < s.len → 0 < s.far) := fun i s hs => by
    obtain ⟨g1, g2, g3, g4, _⟩ := h6 s (List.mem_of_getElem? hs)
    exact ⟨g1, g2, g3, g4⟩
  have hwl := written_length l (fun i s hs => ⟨(hstep i s hs).1, (hstep i s hs).2.1, (hstep i s hs).2.2.1⟩) l.length (Nat.le_refl _)
  rw [List.take_length] at hwl
  refine ⟨y, ⟨by omega, by omega⟩, hstep, by omega, (plain_told l [] y h1 (by omega)).1, getD_range (written_range l fun s hs => (h6 s hs).2.2.2.2), ⟨?_, by omega⟩, fun M hM => ?_, fun M hM => ?_, by omega⟩
  · cases l with
    | nil => simp at h5
    | cons s rest => simp [written, encStep]
  · exact dec_good hread rfl (hfits M 0 (by omega)) h1
  · rcases dec_any (D := D) (dn := dn) (N := M) hread (out := []) (by omega) (by simp) with h8 | ⟨x, _, h9, h10, _⟩
    · exact h8
    · simp only [List.length_nil, Nat.zero_add] at h9
      omega
end Go.Proofs.Ytkfkbbablgbfoaa
