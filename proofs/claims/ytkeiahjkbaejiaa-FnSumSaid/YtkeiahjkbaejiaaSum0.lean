/-
  The contract of impl.Sum, for every row of up to 65536 bytes (nil too).
-/
import Derived.Test.YtkeiahjkbaejiaaCsum
import Derived.Test.YtkeiahjkbaejiaaClone
namespace Go.Proofs.Ytkeiahjkbaejiaa
open Go.RowKit
set_option linter.unusedVariables false
theorem isum_any (a : Option Addr) (n cap : Nat) (D : Nat → Int) (hb : ∀ i, 0 ≤ D i ∧ D i ≤ 255) (hm : n ≤ 65536) (w : World) (hM : Mem w .u8 a n cap D) :
    Calls Try.prog 7 #[.slice a n cap] w fun e w' => e = .returned (.int .u32 (sumOf D n)) ∧ Below w.heap.size w w' := by
  have HM := Lib.hid hM
  have HB := Lib.hid hb
  clear hM hb
  go_enter Try.func7, Try.ntmps7
  go_wp2_with (first
    | (go_at_call 13; refine Calls.mono (clone_any a n cap D w (by omega) HM.out) ?_; rintro e w1 ⟨a1, c1, rfl, hm1, ho1, hb1⟩; have HM1 := Lib.hid hm1; have HB1 := Lib.hid hb1; clear hm1 hb1 ho1)
    | (go_at_call 12; go_enter Try.func12, Try.ntmps12)
    | (go_at_call 18; refine Calls.mono (csum_any _ n _ D HB.out hm (HM1.out).1 (HM1.out).2.1 _ (HM1.out).2.2) ?_; rintro e w2 ⟨rfl, m', rfl⟩))
  go_ret
  exact ⟨rfl, HB1.out.trans ⟨rfl, rfl, rfl, Nat.le_refl _, fun _ _ => rfl⟩⟩
end Go.Proofs.Ytkeiahjkbaejiaa
