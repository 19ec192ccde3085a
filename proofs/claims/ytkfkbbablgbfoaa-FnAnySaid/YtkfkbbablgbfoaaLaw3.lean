/-
  The plain law, third part: the sequences that laws.stepsOf makes: they are well made, no match stands ahead, and where the whole has room each place has.
-/
import Derived.Test.YtkfkbbablgbfoaaLaw2
namespace Go.Proofs.Ytkfkbbablgbfoaa
set_option linter.unusedVariables false
def cnt (v : Nat) : Nat := if v / 16 % 16 = 0 then v / 256 % 400 else v % 9
def mlen (v : Nat) : Nat := if v / 1048576 % 8 = 0 then 4 + v / 4096 % 700 else 4 + v / 16777216 % 24
def litn (v n : Nat) : Nat := if n + cnt v = 0 then 1 else cnt v
def sfar (v n : Nat) : Nat := 1 + v / 512 % min n 65535
/-- the sequences of numbers: n bytes stand behind, x bytes of the stream are used, the last one has q literals -/
def mk (T : Nat → Int) (q : Nat) : List Nat → Nat → Nat → List PStep
  | [], _, x => [⟨slit T x q, 0, 0⟩]
  | v :: vs, n, x => ⟨slit T x (litn v n), sfar v (n + litn v n), mlen v⟩ :: mk T q vs (n + litn v n + mlen v) (x + litn v n)
theorem litn_pos (v n : Nat) : 0 < n + litn v n := by unfold litn; split <;> omega
theorem mlen_ge (v : Nat) : 4 ≤ mlen v := by unfold mlen; split <;> omega
theorem sfar_le (v n : Nat) (h : 0 < n) : 0 < sfar v n ∧ sfar v n ≤ n ∧ sfar v n < 65536 := by
  unfold sfar
  have := Nat.mod_lt (v / 512) (show 0 < min n 65535 by omega)
  omega
theorem mk_ne (T : Nat → Int) (q : Nat) (vs : List Nat) (n x : Nat) : ∃ s rest, mk T q vs n x = s :: rest := by
  cases vs with
  | nil => exact ⟨_, _, rfl⟩
  | cons v vs => exact ⟨_, _, rfl⟩
theorem mk_well (T : Nat → Int) (q : Nat) : ∀ (vs : List Nat) (n x : Nat), WellMade (mk T q vs n x)
  | [], n, x => ⟨rfl, rfl⟩
  | v :: vs, n, x => by
    have ih := mk_well T q vs (n + litn v n + mlen v) (x + litn v n)
    obtain ⟨s, rest, he⟩ := mk_ne T q vs (n + litn v n + mlen v) (x + litn v n)
    have hf := sfar_le v (n + litn v n) (litn_pos v n)
    rw [mk, he]
    rw [he] at ih
    exact ⟨mlen_ge v, hf.1, hf.2.2, ih⟩
theorem mk_told (T D : Nat → Int) (dn q : Nat) : ∀ (vs : List Nat) (n x : Nat) (out : List Int), n = dn + out.length → ∃ y, told D dn (mk T q vs n x) out = some y ∧ y.length = out.length + tot (mk T q vs n x)
  | [], n, x, out, hn => ⟨out ++ slit T x q, by simp [mk, told, repeated], by simp [mk, tot, slit_length]⟩
  | v :: vs, n, x, out, hn => by
    have hf := sfar_le v (n + litn v n) (litn_pos v n)
    obtain ⟨y, h1, h2⟩ := mk_told T D dn q vs (n + litn v n + mlen v) (x + litn v n) (repeated D dn (sfar v (n + litn v n)) (mlen v) (out ++ slit T x (litn v n)))
      (by rw [repeated_length, List.length_append, slit_length]; omega)
    refine ⟨y, ?_, ?_⟩
    · rw [mk, told, if_neg (by simp only [List.length_append, slit_length]; omega)]
      exact h1
    · rw [repeated_length, List.length_append, slit_length] at h2
      rw [h2, mk, tot]
      simp only [slit_length]
      omega
theorem mk_tot (T : Nat → Int) (q : Nat) (vs : List Nat) (n x : Nat) : q ≤ tot (mk T q vs n x) := by
  induction vs generalizing n x with
  | nil => simp [mk, tot, slit_length]
  | cons v vs ih =>
    rw [mk, tot]
    have := ih (n + litn v n + mlen v) (x + litn v n)
    omega
theorem mk_fits (T : Nat → Int) (q N : Nat) (hq : 12 ≤ q) : ∀ (vs : List Nat) (n x d : Nat), d + tot (mk T q vs n x) ≤ N → Fits N (mk T q vs n x) d
  | [], n, x, d, h => by simpa [mk, Fits, tot, slit_length] using h
  | v :: vs, n, x, d, h => by
    rw [mk, tot] at h
    simp only [slit_length] at h
    have ht := mk_tot T q vs (n + litn v n + mlen v) (x + litn v n)
    have hm := mlen_ge v
    have ih := mk_fits T q N hq vs (n + litn v n + mlen v) (x + litn v n) (d + litn v n + mlen v) (by omega)
    obtain ⟨s, rest, he⟩ := mk_ne T q vs (n + litn v n + mlen v) (x + litn v n)
    rw [mk, he]
    rw [he] at ih
    refine ⟨by omega, by simp only [slit_length]; omega, ?_⟩
    simpa only [slit_length] using ih
end Go.Proofs.Ytkfkbbablgbfoaa
