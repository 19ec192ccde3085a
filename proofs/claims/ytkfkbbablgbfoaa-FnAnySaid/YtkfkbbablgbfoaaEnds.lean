/-
  spec.Ends: it answers some bool.
-/
import Derived.Test.YtkfkbbablgbfoaaRowS
namespace Go.Proofs.Ytkfkbbablgbfoaa
open Go.RowKit
set_option linter.unusedVariables false
set_option maxHeartbeats 1000000
set_option maxRecDepth 20000
def SomeBool (w : World) (e : Ending) (w' : World) : Prop := ∃ b, e = .returned (.bool b) ∧ Below w.heap.size w w'
theorem ends8 (g cap : Nat) (l : List PStep) (w : World) (h : StepsMem w g l) (hl : l.length ≤ cap) (h2 : l.length ≤ 1000) (h0 : 0 < l.length) (hl3 : ∀ (i : Nat) (s : PStep), l[i]? = some s → s.lits.length ≤ 1000000 ∧ s.len ≤ 1000000) :
    Calls Try.prog 8 #[.slice (some ⟨g, 0, none⟩) l.length cap] w (SomeBool w) := by
  have H := Lib.hid h
  clear h
  go_enter Try.func8, Try.ntmps8
  go_upto_if 10 with fail
  go_loopw [3, 4, 9] (fun x y p wr => ∃ (i n : Nat) (st : Int), i ≤ l.length ∧ n ≤ i * 2000000 ∧ (-1 ≤ st ∧ st ≤ (n : Int)) ∧ x = .int .i64 (n : Int) ∧ y = .int .i64 st ∧ p = .int .i64 (i : Int) ∧ Hid (Below w.heap.size w wr))
    (fun _ _ p _ => match p with | .int _ r => l.length - r.toNat | _ => 0)
  case atStart => exact ⟨0, 0, -1, by omega, by omega, by omega, rfl, rfl, rfl, Lib.hid (Below.refl _ _)⟩
  case round =>
    obtain ⟨i, n, st, hi, hn, hst, rfl, rfl, rfl, HB⟩ := hrel
    by_cases hil : i < l.length
    · have l1 : (i : Int) < (l.length : Int) := by omega
      obtain ⟨a, c, c0', c1', c2', hM⟩ := H.out i l[i] (by simp [hil])
      have c0 := cell_below HB.out c0'
      have c1 := cell_below HB.out c1'
      have c2 := cell_below HB.out c2'
      clear c0' c1' c2' hM
      obtain ⟨hb1, hb2⟩ := hl3 i l[i] (by simp [hil])
      generalize l[i] = s at c0 c1 c2 hb1 hb2
      have hB2 : ∀ o, Below w.heap.size w (wr.alloc o) := fun o => HB.out.alloc HB.out.size o
      have HB2 := Lib.hid hB2
      clear hB2
      by_cases hp : 0 < s.len
      · have hp1 : (0 : Int) < (s.len : Int) := by omega
        by_cases hk : i = l.length - 1
        · have hk1 : ((i : Int) == (l.length : Int) - 1) = true := by simp; omega
          have HK := Lib.hid hk
          clear hk
          go_wp2
          go_ret
          exact ⟨_, rfl, HB2.out _⟩
        · have hk1 : ((i : Int) == (l.length : Int) - 1) = false := by simp; omega
          have HK := Lib.hid hk
          clear hk
          go_wp2
          refine ⟨⟨i + 1, n + s.lits.length + s.len, (n : Int) + (s.lits.length : Int), by omega, by omega, by omega, by simp, rfl, rfl, Lib.hid (HB2.out _)⟩, ?_⟩
          show l.length - ((i : Int) + 1).toNat < l.length - (i : Int).toNat
          omega
      · have hp1 : ¬ (0 : Int) < (s.len : Int) := by omega
        by_cases hk : i = l.length - 1
        · have hk1 : ((i : Int) == (l.length : Int) - 1) = true := by simp; omega
          have HK := Lib.hid hk
          clear hk
          go_wp2
          refine ⟨⟨i + 1, n + s.lits.length, st, by omega, by omega, by omega, by simp, rfl, rfl, Lib.hid (HB2.out _)⟩, ?_⟩
          show l.length - ((i : Int) + 1).toNat < l.length - (i : Int).toNat
          omega
        · have hk1 : ((i : Int) == (l.length : Int) - 1) = false := by simp; omega
          have HK := Lib.hid hk
          clear hk
          go_wp2
          refine ⟨⟨i + 1, n + s.lits.length, st, by omega, by omega, by omega, by simp, rfl, rfl, Lib.hid (HB2.out _)⟩, ?_⟩
          show l.length - ((i : Int) + 1).toNat < l.length - (i : Int).toNat
          omega
    · obtain rfl : i = l.length := by omega
      have l1 : ¬ (l.length : Int) < (l.length : Int) := by omega
      by_cases hs : st < 0
      · go_wp2
        go_ret
        exact ⟨_, rfl, HB.out⟩
      · obtain ⟨q, hq⟩ : ∃ q, q = l.length - 1 := ⟨_, rfl⟩
        obtain ⟨a, c, k, c0⟩ : ∃ a c k, wr.cell? ⟨g, q * 3, none⟩ = some (.slice a k c) := by
          obtain ⟨a, c, c0', _⟩ := H.out q l[q] (by rw [List.getElem?_eq_getElem (by omega)])
          exact ⟨a, c, _, cell_below HB.out c0'⟩
        have l2 : (0 : Int) ≤ (l.length : Int) - 1 := by omega
        have l3 : (l.length : Int) - 1 < (l.length : Int) := by omega
        have n1 : ((l.length : Int) - 1).toNat = q := by omega
        have HQ := Lib.hid hq
        have HI := Lib.hid hi
        clear hq hi hil
        by_cases hk : 5 ≤ k
        · have hk1 : (5 : Int) ≤ (k : Int) := by omega
          go_wp2
          go_ret
          exact ⟨_, rfl, HB.out⟩
        · have hk1 : ¬ (5 : Int) ≤ (k : Int) := by omega
          go_wp2
          go_ret
          exact ⟨_, rfl, HB.out⟩
end Go.Proofs.Ytkfkbbablgbfoaa
