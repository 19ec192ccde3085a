/-
  lz4.ValidFrameHeader and impl.Valid.
-/
import Derived.Test.YtbadknelbdkpmaaDoorParse
import Derived.BigQuiet
namespace Go.Proofs.YtbadknelbdkpmaaDoor
open Go.RowKit
set_option linter.unusedVariables false
set_option maxHeartbeats 2000000
set_option maxRecDepth 20000
/-- a new frame's cells -/
def V0 : Nat → Value := fun j => if j < 15 then .int .u8 0 else if j = 15 then .int .u32 0 else if j = 16 then .int .u16 0 else if j = 17 then .int .u64 0 else if j = 18 then .int .u8 0 else if j = 19 then .pointer none else if j = 20 then .nilIface
  else if j < 26 then .int .u32 0 else if j = 26 then .int .u64 0 else if j < 43 then .int .u8 0 else if j = 43 then .int .i64 0 else .int .u64 0
/-- a new frame's row of cells -/
def C0 : Array Value := ((List.range 45).map V0).toArray
theorem C0_size : C0.size = 45 := by simp [C0]
theorem new19 (w : World) : Calls Tryd.prog 19 #[] w fun e w' => e = .returned (.pointer (some ⟨w.heap.size, 0, none⟩)) ∧ w' = w.alloc (.cells C0 72) := by
  have h : C0 = ((List.replicate 15 (Value.int .u8 0)) ++ ([Value.int .u32 0, Value.int .u16 0, Value.int .u64 0, Value.int .u8 0, Value.pointer none, Value.nilIface, Value.int .u32 0, Value.int .u32 0, Value.int .u32 0, Value.int .u32 0, Value.int .u32 0, Value.int .u64 0] : List Value) ++ (List.replicate 16 (Value.int .u8 0)) ++ ([Value.int .i64 0, Value.int .u64 0] : List Value)).toArray := by kernel_rfl
  rw [h]
  go_enter Tryd.func19, Tryd.ntmps19
  go_wp2
  first | exact ⟨rfl, rfl⟩ | (go_ret; exact ⟨rfl, rfl⟩)
theorem new21 (a : Option Addr) (n c : Nat) (w : World) : Calls Tryd.prog 21 #[.slice a n c] w fun e w' => e = .returned (.pointer (some ⟨w.heap.size, 0, none⟩)) ∧ w' = w.alloc (.cells #[.slice a n c, .int .i64 0, .int .i64 (-1)] 82) := by
  go_enter Tryd.func21, Tryd.ntmps21
  go_wp2
  first | exact ⟨rfl, rfl⟩ | (go_ret; exact ⟨rfl, rfl⟩)
theorem bad_nil (w : World) : (binOp BinOp.eql 45 badMagic .nilIface).run Tryd.prog w = .ok (.bool false) w := by kernel_rfl
theorem bad_bad (w : World) : (binOp BinOp.eql 45 badMagic (.iface 57 (.string { data := #[108, 122, 52, 58, 32, 98, 97, 100, 32, 109, 97, 103, 105, 99, 32, 110, 117, 109, 98, 101, 114] }))).run Tryd.prog w = .ok (.bool true) w := by kernel_rfl
theorem bad_guard1 (x y : Operand) (w : World) : (eqGuard BinOp.eql 45 x y badMagic .nilIface).run Tryd.prog w = .ok () w := rfl
theorem bad_guard2 (x y : Operand) (w : World) : (eqGuard BinOp.eql 45 x y badMagic (.iface 57 (.string { data := #[108, 122, 52, 58, 32, 98, 97, 100, 32, 109, 97, 103, 105, 99, 32, 110, 117, 109, 98, 101, 114] }))).run Tryd.prog w = .ok () w := rfl
/-- the reading begins -/
theorem begun {w : World} {sb so len cap : Nat} {S : Nat → Int} (hs : ∀ j, j < len → w.cell? ⟨sb, so + j, none⟩ = some (.int .u8 (S j))) (hpos : 0 < len) :
    RS w ((w.alloc (.cells C0 72)).alloc (.cells #[.slice (some ⟨sb, so, none⟩) len cap, .int .i64 0, .int .i64 (-1)] 82)) w.heap.size (w.heap.size + 1) sb so len cap S V0 0 (-1) := by
  refine ⟨?_, ?_, ((Below.refl _ _).alloc (Nat.le_refl _) _).alloc (by simp) _, hs, Nat.le_refl _, Nat.le_succ _, by omega, hpos⟩
  · unfold C0
    exact Rowf.grown (heap_alloc_new w _) (World.grownBy_alloc _ _ none) (by simp)
  · have h := heap_alloc_new (w.alloc (.cells C0 72)) (.cells #[.slice (some ⟨sb, so, none⟩) len cap, .int .i64 0, .int .i64 (-1)] 82)
    have hsz : (w.alloc (.cells C0 72)).heap.size = w.heap.size + 1 := by simp
    rw [hsz] at h
    exact h
/-- what a head must have, that the reading takes it -/
def HeadOk (S : Nat → Int) (len : Nat) : Prop :=
  4 ≤ len ∧ (le4 (S 0) (S 1) (S 2) (S 3) = 407642370 ∨ (le4 (S 0) (S 1) (S 2) (S 3) = 407708164 ∧ ∃ D : Nat, (D : Int) = S 4 + 256 * S 5 ∧ D % 2 = 0 ∧ D / 64 % 4 = 1 ∧ bits .and .u16 (D : Int) 36610 = 0 ∧ 4 ≤ D / 4096 % 8 ∧
    ((D / 8 % 2 = 0 ∧ 7 ≤ len ∧ S 6 = sumOf (fun i => S (4 + i)) 2 / 256 % 256) ∨ (D / 8 % 2 = 1 ∧ 15 ≤ len ∧ S 14 = sumOf (fun i => S (4 + i)) 10 / 256 % 256))))
theorem parse_head {w0 w : World} {f r sb so len cap : Nat} {S : Nat → Int} {V : Nat → Value} {x : Int} (h : RS w0 w f r sb so len cap S V 0 x) (hV : V 15 = .int .u32 0) (hS : ∀ i, 0 ≤ S i ∧ S i ≤ 255) (hl : len ≤ 1000000) (hcap : len ≤ cap) (hcap2 : cap ≤ 9223372036854775807) (hh : HeadOk S len) :
    Calls Tryd.prog 20 #[.pointer (some ⟨f, 0, none⟩), .iface 55 (.pointer (some ⟨r, 0, none⟩))] w fun e w' => e = .returned .nilIface ∧ After w0 w' f r sb so len cap S := by
  obtain ⟨h4, hM | ⟨hM, D, hD, g2, g64, gres, gb, ⟨g8, g7, gs⟩ | ⟨g8, g15, gs⟩⟩⟩ := hh
  · refine parse_ok h hV hS h4 hl hcap hcap2 hM (.inr rfl) fun w1 V1 h1 hV1 => Calls.mono (init_legacy h1 hV1) ?_
    rintro e w' ⟨rfl, V', h2⟩
    exact ⟨rfl, _, _, _, h2⟩
  · refine parse_ok h hV hS h4 hl hcap hcap2 hM (.inl rfl) fun w1 V1 h1 hV1 => Calls.mono (init_plain h1 hV1 (by decide) hS hD g2 g8 g64 gres gb (by omega) gs hl hcap hcap2) ?_
    rintro e w' ⟨rfl, V', p', h2⟩
    exact ⟨rfl, _, _, _, h2⟩
  · refine parse_ok h hV hS h4 hl hcap hcap2 hM (.inl rfl) fun w1 V1 h1 hV1 => Calls.mono (init_sized h1 hV1 (by decide) hS hD g2 g8 g64 gres gb (by omega) gs hl hcap hcap2) ?_
    rintro e w' ⟨rfl, V', p', h2⟩
    exact ⟨rfl, _, _, _, h2⟩
theorem header_ok {w : World} {sb so len cap : Nat} {S : Nat → Int} (hs : ∀ j, j < len → w.cell? ⟨sb, so + j, none⟩ = some (.int .u8 (S j))) (hS : ∀ i, 0 ≤ S i ∧ S i ≤ 255) (hl : len ≤ 1000000) (hcap : len ≤ cap) (hcap2 : cap ≤ 9223372036854775807) (hh : HeadOk S len) :
    Calls Tryd.prog 15 #[.slice (some ⟨sb, so, none⟩) len cap] w fun e w' => e = .returned (.tuple #[.bool true, .nilIface]) ∧ Below w.heap.size w w' := by
  have H := Lib.hid (begun (cap := cap) hs (by have := hh.1; omega))
  have HS := Lib.hid hS
  have HH := Lib.hid hh
  clear hs hS hh
  have q := nil_eql
  go_enter Tryd.func15, Tryd.ntmps15
  go_wp2_with (first
    | (go_at_call 19; refine Calls.mono (new19 _) ?_; rintro e w1 ⟨rfl, rfl⟩)
    | (go_at_call 21; refine Calls.mono (new21 _ _ _ _) ?_; rintro e w2 ⟨rfl, rfl⟩)
    | (go_at_call 20
       refine Calls.mono (parse_head (by have h5 := H.out; simpa using h5) rfl HS.out hl hcap hcap2 HH.out) ?_
       rintro e w3 ⟨rfl, V3, p3, x3, h3⟩
       have H3 := Lib.hid h3.below
       clear h3))
  go_ret2
  exact ⟨rfl, H3.out⟩
/-- a head that no reading takes -/
def HeadBad (S : Nat → Int) (len : Nat) : Prop :=
  4 ≤ len ∧ ∃ M, le4 (S 0) (S 1) (S 2) (S 3) = M ∧ (M == 407708164) = false ∧ (M == 407642370) = false ∧ (M / 256 == 1592618) = false
theorem header_bad {w : World} {sb so len cap : Nat} {S : Nat → Int} (hs : ∀ j, j < len → w.cell? ⟨sb, so + j, none⟩ = some (.int .u8 (S j))) (hS : ∀ i, 0 ≤ S i ∧ S i ≤ 255) (hl : len ≤ 1000000) (hcap : len ≤ cap) (hcap2 : cap ≤ 9223372036854775807) (hh : HeadBad S len) :
    Calls Tryd.prog 15 #[.slice (some ⟨sb, so, none⟩) len cap] w fun e w' => e = .returned (.tuple #[.bool false, .nilIface]) ∧ Below w.heap.size w w' := by
  have H := Lib.hid (begun (cap := cap) hs (by have := hh.1; omega))
  have HS := Lib.hid hS
  obtain ⟨h4, M, hM, h1, h2, h3⟩ := hh
  have HP := Lib.hid (fun (w' : World) (f r : Nat) (h5 : RS w w' f r sb so len cap S V0 0 (-1)) => parse_bad h5 rfl HS.out h4 hl hcap hcap2 hM h1 h2 h3)
  clear hs hS hM h1 h2 h3
  have q1 := bad_nil
  have q2 := bad_bad
  have q3 := bad_guard1
  have q4 := bad_guard2
  generalize hE : badMagic = E at q1 q2 q3 q4
  go_enter Tryd.func15, Tryd.ntmps15
  go_wp2_with (first
    | (go_at_call 19; refine Calls.mono (new19 _) ?_; rintro e w1 ⟨rfl, rfl⟩)
    | (go_at_call 21; refine Calls.mono (new21 _ _ _ _) ?_; rintro e w2 ⟨rfl, rfl⟩)
    | (go_at_call 20
       refine Calls.mono (HP.out _ _ _ (by have h5 := H.out; simpa using h5)) ?_
       rintro e w3 ⟨he, h3⟩
       rw [hE] at he
       subst he
       have H3 := Lib.hid h3
       clear h3))
  go_ret2
  exact ⟨rfl, H3.out⟩
theorem belowN8 {B : Nat} {a w : World} (h : Below B a w) (n : Nat) : Below B a (w.drewN n) := ⟨h.os, h.tape, h.output, h.size, h.block⟩
theorem valid8_ok {a : Option Addr} {len cap : Nat} {S : Nat → Int} {w : World} (hm : Mem w .u8 a len cap S) (hS : ∀ i, 0 ≤ S i ∧ S i ≤ 255) (hl : len ≤ 1000000) (hh : HeadOk S len) :
    Calls Tryd.prog 8 #[.slice a len cap] w fun e w' => e = .returned (.tuple #[.bool true, .bool true]) ∧ Below w.heap.size w w' := by
  have HM := Lib.hid hm
  have HS := Lib.hid hS
  have HH := Lib.hid hh
  clear hm hS hh
  have q := nil_eql
  go_enter Tryd.func8, Tryd.ntmps8
  go_wp2_with (first
    | (go_at_call 16
       refine Calls.mono (clone_any _ _ _ S _ (by omega) HM.out) ?_
       rintro e w1 ⟨a', c', rfl, hm1, ho1, hB1⟩
       have h4 := HH.out.1
       obtain ⟨g1, g2, g3⟩ := hm1
       obtain ⟨b, off, rfl, hc⟩ : ∃ b off, a' = some ⟨b, off, none⟩ ∧ ∀ i, i < len → w1.cell? ⟨b, off + i, none⟩ = some (.int .u8 (S i)) := by
         rcases g3 with h | h
         · omega
         · exact h
       have HC := Lib.hid hc
       have HB := Lib.hid hB1
       clear hc hB1 ho1 g3)
    | (go_at_call 15
       refine Calls.mono (header_ok HC.out HS.out hl g1 g2 HH.out) ?_
       rintro e w2 ⟨rfl, h2⟩
       have HB2 := Lib.hid (HB.out.grown (grown_of_below h2 none) (grown_of_below HB.out none).size (by simp))
       clear h2))
  go_quiet (fail)
  go_wp2
  go_ret2
  exact ⟨rfl, belowN8 HB2.out _⟩
theorem valid8_bad {a : Option Addr} {len cap : Nat} {S : Nat → Int} {w : World} (hm : Mem w .u8 a len cap S) (hS : ∀ i, 0 ≤ S i ∧ S i ≤ 255) (hl : len ≤ 1000000) (hh : HeadBad S len) :
    Calls Tryd.prog 8 #[.slice a len cap] w fun e w' => e = .returned (.tuple #[.bool false, .bool true]) ∧ Below w.heap.size w w' := by
  have HM := Lib.hid hm
  have HS := Lib.hid hS
  have HH := Lib.hid hh
  clear hm hS hh
  have q := nil_eql
  go_enter Tryd.func8, Tryd.ntmps8
  go_wp2_with (first
    | (go_at_call 16
       refine Calls.mono (clone_any _ _ _ S _ (by omega) HM.out) ?_
       rintro e w1 ⟨a', c', rfl, hm1, ho1, hB1⟩
       have h4 := HH.out.1
       obtain ⟨g1, g2, g3⟩ := hm1
       obtain ⟨b, off, rfl, hc⟩ : ∃ b off, a' = some ⟨b, off, none⟩ ∧ ∀ i, i < len → w1.cell? ⟨b, off + i, none⟩ = some (.int .u8 (S i)) := by
         rcases g3 with h | h
         · omega
         · exact h
       have HC := Lib.hid hc
       have HB := Lib.hid hB1
       clear hc hB1 ho1 g3)
    | (go_at_call 15
       refine Calls.mono (header_bad HC.out HS.out hl g1 g2 HH.out) ?_
       rintro e w2 ⟨rfl, h2⟩
       have HB2 := Lib.hid (HB.out.grown (grown_of_below h2 none) (grown_of_below HB.out none).size (by simp))
       clear h2))
  go_quiet (fail)
  go_wp2
  go_ret2
  exact ⟨rfl, belowN8 HB2.out _⟩
end Go.Proofs.YtbadknelbdkpmaaDoor
