/-
  Frame.ParseHeaders on a head of ours, or of the old form: no error; on another magic: the error that tells so.
-/
import Derived.Test.YtbadknelbdkpmaaDoorInit
import Derived.WalkMore
namespace Go.Proofs.YtbadknelbdkpmaaDoor
open Go.RowKit
set_option linter.unusedVariables false
set_option maxHeartbeats 2000000
set_option maxRecDepth 20000
/-- whatever the reading has come to -/
def After (w0 w : World) (f r sb so len cap : Nat) (S : Nat → Int) : Prop := ∃ V p x, RS w0 w f r sb so len cap S V p x
theorem reset26 {w0 w : World} {f r sb so len cap : Nat} {S : Nat → Int} (h : After w0 w f r sb so len cap S) : Calls Tryd.prog 26 #[.pointer (some ⟨f, 22, none⟩)] w fun e w' => e = .returned (.tuple #[]) ∧ After w0 w' f r sb so len cap S := by
  obtain ⟨V, p, x, h⟩ := h
  have c22 := h.fr.cell (j := 22) (by omega)
  have c23 := h.fr.cell (j := 23) (by omega)
  have c24 := h.fr.cell (j := 24) (by omega)
  have c25 := h.fr.cell (j := 25) (by omega)
  have c26 := h.fr.cell (j := 26) (by omega)
  have c43 := h.fr.cell (j := 43) (by omega)
  have f22 := h.fr.free 22
  have f23 := h.fr.free 23
  have f24 := h.fr.free 24
  have f25 := h.fr.free 25
  have f26 := h.fr.free 26
  have f43 := h.fr.free 43
  have H := Lib.hid h
  clear h
  go_enter Tryd.func26, Tryd.ntmps26
  go_wp2
  go_end0
  exact ⟨rfl, _, _, _, (((((H.out.setf 22 _).setf 23 _).setf 24 _).setf 25 _).setf 26 _).setf 43 _⟩
/-- lz4errors.ErrInvalidFrame -/
def badMagic : Value := .iface 57 (.string { data := #[108, 122, 52, 58, 32, 98, 97, 100, 32, 109, 97, 103, 105, 99, 32, 110, 117, 109, 98, 101, 114] })
theorem parse_ok {w0 w : World} {f r sb so len cap : Nat} {S : Nat → Int} {V : Nat → Value} {x M : Int} (h : RS w0 w f r sb so len cap S V 0 x) (hV : V 15 = .int .u32 0) (hS : ∀ i, 0 ≤ S i ∧ S i ≤ 255) (h4 : 4 ≤ len) (hl : len ≤ 1000000) (hcap : len ≤ cap) (hcap2 : cap ≤ 9223372036854775807)
    (hM : le4 (S 0) (S 1) (S 2) (S 3) = M) (hM2 : M = 407708164 ∨ M = 407642370)
    (hinit : ∀ w1 V1, RS w0 w1 f r sb so len cap S V1 4 (-1) → V1 15 = .int .u32 M → Calls Tryd.prog 25 #[.pointer (some ⟨f, 16, none⟩), .pointer (some ⟨f, 0, none⟩), .iface 55 (.pointer (some ⟨r, 0, none⟩))] w1 fun e w' => e = .returned .nilIface ∧ After w0 w' f r sb so len cap S) :
    Calls Tryd.prog 20 #[.pointer (some ⟨f, 0, none⟩), .iface 55 (.pointer (some ⟨r, 0, none⟩))] w fun e w' => e = .returned .nilIface ∧ After w0 w' f r sb so len cap S := by
  have H := Lib.hid h
  have HS := Lib.hid hS
  have HI := Lib.hid hinit
  have c15 := h.at 15 (by omega) _ hV
  have q := nil_neq
  clear h hS hinit
  go_enter Tryd.func20, Tryd.ntmps20
  rcases hM2 with hM2 | hM2
  · have h1 : (M == 407708164) = true := by simp [hM2]
    clear hM2
    go_wp2
    go_step3
    go_wp2
    go_step3
    go_wp2_with (first
      | (go_at_call 22
         refine Calls.mono (readU32 H.out h4 hl hcap hcap2 HS.out) ?_
         rw [hM]
         rintro e w2 ⟨rfl, h2⟩
         have d15 := h2.fr.cell (j := 15) (by omega)
         have f15 := h2.fr.free 15
         have H2 := Lib.hid (h2.setf 15 (.int .u32 M))
         clear h2)
      | (go_at_call 25
         refine Calls.mono (HI.out _ _ H2.out put1_eq) ?_
         rintro e w3 ⟨rfl, h3⟩
         have H3 := Lib.hid h3
         clear h3)
      | (go_at_call 26
         refine Calls.mono (reset26 H3.out) ?_
         rintro e w4 ⟨rfl, V4, p4, x4, h4⟩
         have d44 := h4.fr.cell (j := 44) (by omega)
         have f44 := h4.fr.free 44
         have H4 := Lib.hid h4
         clear h4))
    rw [Exit.noGoto_ret]
    go_ret
    exact ⟨rfl, _, _, _, H4.out.setf 44 _⟩
  · have h1 : (M == 407708164) = false := by simp [hM2]
    have h2 : (M == 407642370) = true := by simp [hM2]
    clear hM2
    go_wp2
    go_step3
    go_wp2
    go_step3
    go_wp2_with (first
      | (go_at_call 22
         refine Calls.mono (readU32 H.out h4 hl hcap hcap2 HS.out) ?_
         rw [hM]
         rintro e w2 ⟨rfl, h2⟩
         have d15 := h2.fr.cell (j := 15) (by omega)
         have f15 := h2.fr.free 15
         have H2 := Lib.hid (h2.setf 15 (.int .u32 M))
         clear h2)
      | (go_at_call 25
         refine Calls.mono (HI.out _ _ H2.out put1_eq) ?_
         rintro e w3 ⟨rfl, h3⟩
         have H3 := Lib.hid h3
         clear h3)
      | (go_at_call 26
         refine Calls.mono (reset26 H3.out) ?_
         rintro e w4 ⟨rfl, V4, p4, x4, h4⟩
         have d44 := h4.fr.cell (j := 44) (by omega)
         have f44 := h4.fr.free 44
         have H4 := Lib.hid h4
         clear h4))
    rw [Exit.noGoto_ret]
    go_ret
    exact ⟨rfl, _, _, _, H4.out.setf 44 _⟩
theorem parse_bad {w0 w : World} {f r sb so len cap : Nat} {S : Nat → Int} {V : Nat → Value} {x M : Int} (h : RS w0 w f r sb so len cap S V 0 x) (hV : V 15 = .int .u32 0) (hS : ∀ i, 0 ≤ S i ∧ S i ≤ 255) (h4 : 4 ≤ len) (hl : len ≤ 1000000) (hcap : len ≤ cap) (hcap2 : cap ≤ 9223372036854775807)
    (hM : le4 (S 0) (S 1) (S 2) (S 3) = M) (h1 : (M == 407708164) = false) (h2 : (M == 407642370) = false) (h3 : (M / 256 == 1592618) = false) :
    Calls Tryd.prog 20 #[.pointer (some ⟨f, 0, none⟩), .iface 55 (.pointer (some ⟨r, 0, none⟩))] w fun e w' => e = .returned badMagic ∧ Below w0.heap.size w0 w' := by
  have H := Lib.hid h
  have HS := Lib.hid hS
  have c15 := h.at 15 (by omega) _ hV
  have q := nil_neq
  clear h hS
  go_enter Tryd.func20, Tryd.ntmps20
  go_wp2
  go_step3
  go_wp2
  go_step3
  go_wp2_with (
       go_at_call 22
       refine Calls.mono (readU32 H.out h4 hl hcap hcap2 HS.out) ?_
       rw [hM]
       rintro e w2 ⟨rfl, h2⟩
       have d15 := h2.fr.cell (j := 15) (by omega)
       have f15 := h2.fr.free 15
       have H2 := Lib.hid (h2.setf 15 (.int .u32 M))
       clear h2)
  rw [Exit.noGoto_ret]
  go_ret
  exact ⟨rfl, H2.out.below⟩
end Go.Proofs.YtbadknelbdkpmaaDoor
