/-
  'laws.FnSumPieces' returns true at every input and leaves its arguments alone: the statement 'Rows.FnSumPiecesSaid', with no condition. The frame was written by proof-skeleton.mjs; the walk is typed by hand.
-/
import Derived.Test.YtkeiahjkbaejiaaRows
import Derived.WalkKit
import Derived.ProofKit
import Derived.OpenShut
import Derived.ShutString
import Derived.ChangeOld
import Derived.Below
import Derived.Test.YtkeiahjkbaejiaaCut
import Derived.Test.YtkeiahjkbaejiaaSpecAny
namespace Go.Proofs.Ytkeiahjkbaejiaa.fnSumPieces
open Go.ChangeShapes Go.WideShapes Go.ChangeAt Go.RowKit
open Go.ChangeMaps (open_string shut_string)
set_option linter.unusedVariables false

theorem own : ownKnob Try.prog.godebug = none := by kernel_rfl
theorem laidOut : laidOutB Try.prog = true := by kernel_rfl

/-- WHAT THE WALK IS TOLD OF A SLICE OF INTEGERS THAT CAME IN: it is nil; or it leads to a row of 'cap' cells, the numbers 'zs' (the first 'len' are its elements, the rest its spare room), each fitting its kind. -/
def IsRow (k : IntKind) (w : World) (a : Option Addr) (len cap : Nat) (zs : List Int) : Prop :=
  (a = none ∧ len = 0 ∧ cap = 0 ∧ zs = []) ∨
  ∃ x, a = some x ∧ len ≤ cap ∧ cap ≤ maxLen ∧ zs.length = cap ∧ (∀ i, i < zs.length → w.cell? (x.add i) = some (.int k (zs.getD i 0))) ∧ ∀ n ∈ zs, (Lit.int k n).wf = true

theorem mem_of_rowk {k : IntKind} {w : World} {a : Option Addr} {len cap : Nat} {zs : List Int} (h : IsRow k w a len cap zs) :
    Mem w k a len cap (fun i => zs.getD i 0) ∧ len ≤ 9223372036854775807 := by
  rcases h with ⟨rfl, rfl, rfl, rfl⟩ | ⟨x, rfl, hl, hm, hz, hcell, hwz⟩
  · exact ⟨⟨by omega, by omega, .inl rfl⟩, by omega⟩
  · unfold maxLen at hm
    refine ⟨⟨hl, by omega, ?_⟩, by omega⟩
    by_cases h0 : len = 0
    · exact .inl h0
    · obtain ⟨b, off, spot⟩ := x
      have hc := hcell 0 (by omega)
      have hspot : spot = none := by simpa [Addr.add] using World.cell?_spot hc
      subst hspot
      refine .inr ⟨b, off, rfl, fun i hi => ?_⟩
      rw [← hcell i (by omega)]; cases i <;> rfl
theorem mem_of_row8 {w : World} {a : Option Addr} {len cap : Nat} {zs : List Int} (h : IsRow .u8 w a len cap zs) :
    Mem w .u8 a len cap (fun i => zs.getD i 0) ∧ (∀ i, 0 ≤ zs.getD i 0 ∧ zs.getD i 0 ≤ 255) ∧ len ≤ 9223372036854775807 := by
  refine ⟨(mem_of_rowk h).1, fun i => ?_, (mem_of_rowk h).2⟩
  rcases h with ⟨rfl, rfl, rfl, rfl⟩ | ⟨x, rfl, hl, hm, hz, hcell, hwz⟩
  · simp
  · have := range_u8 hwz i
    simpa using this
theorem mem_of_row16 {w : World} {a : Option Addr} {len cap : Nat} {zs : List Int} (h : IsRow .u16 w a len cap zs) :
    Mem w .u16 a len cap (fun i => zs.getD i 0) ∧ (∀ i, 0 ≤ zs.getD i 0 ∧ zs.getD i 0 ≤ 65535) ∧ len ≤ 9223372036854775807 := by
  refine ⟨(mem_of_rowk h).1, fun i => ?_, (mem_of_rowk h).2⟩
  rcases h with ⟨rfl, rfl, rfl, rfl⟩ | ⟨x, rfl, hl, hm, hz, hcell, hwz⟩
  · simp
  · have := range_u16 hwz i
    simpa using this
theorem cut_any {w : World} {a0 a1 : Option Addr} {n cap m c1 : Nat} {D Z : Nat → Int} (hM : Mem w .u8 a0 n cap D) (hZ : Mem w .u16 a1 m c1 Z) (hzb : ∀ i, 0 ≤ Z i ∧ Z i ≤ 65535) (hn : n ≤ 65536) (hm : m ≤ 100) :
    Calls Try.prog 10 #[.slice a0 n cap, .slice a1 m c1] w (Pieces w D n) := by
  by_cases hm0 : m = 0
  · subst hm0
    exact cut_whole a0 n cap D a1 c1 w hM
  · rcases hZ.2.2 with h | ⟨bs, os, rfl, hz⟩
    · omega
    · obtain ⟨h1, h2, h3⟩ := hM
      rcases h3 with rfl | ⟨b, off, rfl, hc⟩
      · exact cut_some 0 0 0 cap a0 D bs os m c1 Z w (by omega) h1 h2 (by omega) (by intro i hi; omega) (by omega) hm hzb hz
      · exact cut_some b off n cap _ D bs os m c1 Z w hn h1 h2 (fun _ => rfl) hc (by omega) hm hzb hz
/-! ### STEP 1: THE WALK: the Go text returns true, AND WRITES NOTHING THAT WAS THERE: 'Below w.heap.size w w'' (Derived/Below.lean: '.refl', '.alloc', '.drew', '.setCell' at a new block, '.trans'). Open each 'IsRow' by 'rcases' AHEAD of 'go_enter'; part every test ahead of the walk. -/
theorem walk (a0 : Option Addr) (len0 cap0 : Nat) (z0 : List Int) (a1 : Option Addr) (len1 cap1 : Nat) (z1 : List Int) (w : World) (w0 : IsRow .u8 w a0 len0 cap0 z0) (w1 : IsRow .u16 w a1 len1 cap1 z1) :
    Calls Try.prog 5 #[.slice a0 len0 cap0, .slice a1 len1 cap1] w fun e w' => e = .returned (.bool true) ∧ Below w.heap.size w w' := by
  obtain ⟨hM, hb, hlen⟩ := mem_of_row8 w0
  obtain ⟨hM1, hb1, hlen1⟩ := mem_of_row16 w1
  have hl0 : (0 : Int) ≤ (len0 : Int) := by omega
  by_cases h1 : len0 ≤ 65536 ∧ len1 ≤ 100
  · obtain ⟨h1, h1'⟩ := h1
    have h2 : decide ((2147483647 : Int) < (len0 : Int)) = false := by simp; omega
    have h3 : decide ((2147483647 : Int) < (len1 : Int)) = false := by simp; omega
    have h4 : decide ((65536 : Int) < (len0 : Int)) = false := by simp; omega
    have h5 : decide ((100 : Int) < (len1 : Int)) = false := by simp; omega
    have HM := Lib.hid hM
    have HB := Lib.hid hb
    have HC : Hid (Calls Try.prog 10 #[.slice a0 len0 cap0, .slice a1 len1 cap1] w (Pieces w (fun i => z0.getD i 0) len0)) := cut_any hM hM1 hb1 h1 h1'
    clear hM hb w0 w1 hM1 hb1
    go_enter Try.func5, Try.ntmps5
    go_wp2_with (first
      | (go_at_call 10; refine Calls.mono HC.out ?_; rintro e w1 ⟨pa, np, pc, vs, rfl, hl, hnp, hcells, hcut, hbel1⟩; (have HP := Lib.hid (And.intro hl (And.intro hnp (And.intro hcells hcut)))); (have HB1 := Lib.hid hbel1); clear hl hnp hcells hcut hbel1)
      | (go_at_call 9; refine Calls.mono (spieces_any pa np pc vs _ len0 _ HB.out h1 HP.out.1 HP.out.2.1 HP.out.2.2.1 HP.out.2.2.2) ?_; rintro e w2 ⟨rfl, hbel2⟩; (have HB2 := Lib.hid hbel2); clear hbel2)
      | (go_at_call 8; refine Calls.mono (ssum_any a0 len0 cap0 _ HB.out h1 _ ((HM.out.below HB1.out).below HB2.out)) ?_; rintro e w3 ⟨rfl, hbel3⟩; (have HB3 := Lib.hid hbel3); clear hbel3))
    go_ret
    exact ⟨rfl, HB1.out.trans ((HB2.out.trans (HB3.out.mono HB2.out.size)).mono HB1.out.size)⟩
  · by_cases h2 : (2147483647 : Int) < (len0 : Int)
    · have h2' : decide ((2147483647 : Int) < (len0 : Int)) = true := by simp; omega
      go_enter Try.func5, Try.ntmps5
      go_wp2
      go_ret
      exact ⟨rfl, Below.refl _ _⟩
    · have h2' : decide ((2147483647 : Int) < (len0 : Int)) = false := by simp; omega
      by_cases h3 : (2147483647 : Int) < (len1 : Int)
      · have h3' : decide ((2147483647 : Int) < (len1 : Int)) = true := by simp; omega
        go_enter Try.func5, Try.ntmps5
        go_wp2
        go_ret
        exact ⟨rfl, Below.refl _ _⟩
      · have h3' : decide ((2147483647 : Int) < (len1 : Int)) = false := by simp; omega
        by_cases h4 : (65536 : Int) < (len0 : Int)
        · have h4' : decide ((65536 : Int) < (len0 : Int)) = true := by simp; omega
          clear h1
          go_enter Try.func5, Try.ntmps5
          go_wp2
          go_ret
          exact ⟨rfl, Below.refl _ _⟩
        · have h4' : decide ((65536 : Int) < (len0 : Int)) = false := by simp; omega
          have h5 : (100 : Int) < (len1 : Int) := by omega
          have h5' : decide ((100 : Int) < (len1 : Int)) = true := by simp; omega
          clear h1
          go_enter Try.func5, Try.ntmps5
          go_wp2
          go_ret
          exact ⟨rfl, Below.refl _ _⟩

/-! ### THE ROW's STEP: WRITTEN OUT: LEAVE IT -/
set_option maxRecDepth 100000 in
theorem lifted (os : Os) (started : os.Started) (H : Type) (enc : TypeId × Value → H) :
    ReturnsInHanded {} Try.checked os 5 .any (Rows.fnSumPiecesSpec.pre6 enc Try.prog Try.f5 Rows.fnSumPiecesRow.domain false) (Rows.fnSumPiecesSpec.post enc Try.prog Try.f5 false true false false) := by
  refine returnsInHanded_of_change (C := Try.checked) own started (by kernel_rfl) Try.func5
    (ChangeSpec.witness6 (enc := enc) (C := Try.checked) false ⟨#[], #[.slice none 0 0, .slice none 0 0], []⟩ 8 (by kernel_rfl) (by kernel_rfl) (by kernel_rfl) (by kernel_rfl)) ?_
  intro W base args ds gs before hval0 hW hcnd _
  have hval : ∀ (j : Nat) t v, Try.f5.params[j]? = some t → args[j]? = some v → Value.okWide Try.prog W .any base t v := hval0
  have hW' := hW
  obtain ⟨p, q, hA0, hV, rfl, hfz, hnd⟩ := hW
  have hA : DataW.TrodAll enc Try.prog W 0 (fun _ => true) true Try.f5.params.toList args.toList ds p := hA0
  rw [Try.params5] at hA hval
  obtain ⟨v0, vs0, d0, ds0, p0, q0, hargs, rfl, rfl, h0, r0⟩ := trodAll_cons hA
  obtain ⟨v1, vs1, d1, ds1, p1, q1, rfl, rfl, rfl, h1, r1⟩ := trodAll_cons r0
  obtain ⟨rfl, rfl, rfl⟩ := trodAll_nil r1
  obtain rfl : args = #[v0, v1] := by cases args; simp_all
  obtain ⟨rfl, rfl⟩ := trodVars_none hV
  obtain ⟨a0, len0, cap0, rfl⟩ := okWide_slice Try.underlying25 (hval 0 25 v0 rfl rfl)
  have k0 := h0
  have lt0 : ∀ x ∈ p0, x.block < W.heap.size := by obtain ⟨m, hm⟩ := k0; exact DataW.trod_lt m _ _ _ hm
  obtain ⟨z0, w0⟩ : ∃ zs, IsRow .u8 W a0 len0 cap0 zs := by
    obtain ⟨fuel, hf⟩ := h0
    rcases open_ints Try.underlying25 Try.underlying5 (by kernel_rfl) hf with ⟨hcs, _⟩ | ⟨x, l, c, zs, hcs, _, hl, hm, hz, _, hcell, hwz⟩
    · simp [Value.cells] at hcs
      obtain ⟨rfl, rfl, rfl⟩ := hcs
      exact ⟨[], .inl ⟨rfl, rfl, rfl, rfl⟩⟩
    · simp [Value.cells] at hcs
      obtain ⟨rfl, rfl, rfl⟩ := hcs
      exact ⟨zs, .inr ⟨_, rfl, hl, hm, by simpa using hz, hcell, hwz⟩⟩
  obtain ⟨a1, len1, cap1, rfl⟩ := okWide_slice Try.underlying29 (hval 1 29 v1 rfl rfl)
  have k1 := h1
  have lt1 : ∀ x ∈ p1, x.block < W.heap.size := by obtain ⟨m, hm⟩ := k1; exact DataW.trod_lt m _ _ _ hm
  obtain ⟨z1, w1⟩ : ∃ zs, IsRow .u16 W a1 len1 cap1 zs := by
    obtain ⟨fuel, hf⟩ := h1
    rcases open_ints Try.underlying29 Try.underlying39 (by kernel_rfl) hf with ⟨hcs, _⟩ | ⟨x, l, c, zs, hcs, _, hl, hm, hz, _, hcell, hwz⟩
    · simp [Value.cells] at hcs
      obtain ⟨rfl, rfl, rfl⟩ := hcs
      exact ⟨[], .inl ⟨rfl, rfl, rfl, rfl⟩⟩
    · simp [Value.cells] at hcs
      obtain ⟨rfl, rfl, rfl⟩ := hcs
      exact ⟨zs, .inr ⟨_, rfl, hl, hm, by simpa using hz, hcell, hwz⟩⟩
  clear hA0 hval0
  refine (walk a0 len0 cap0 z0 a1 len1 cap1 z1 W w0 w1).mono fun e W' ⟨he, bel⟩ => ?_
  subst he
  exact ⟨_, rfl, _, _, _, [], _, [], hW', trodAll_mk1 (shut_bool Try.underlying4 _), (trodAll_cons_mk (Below.trod laidOut (by kernel_rfl) (of_decide_eq_true (by kernel_rfl)) k0 bel lt0) (trodAll_cons_mk (Below.trod laidOut (by kernel_rfl) (of_decide_eq_true (by kernel_rfl)) k1 bel lt1) trodAll_mk0)), rfl, bel.frame _, fun h => by cases h⟩

theorem over : Rows.fnSumPiecesRow.holds Try.pinned (OpenSpec.ofChange Rows.fnSumPiecesSpec) :=
  OpenClaim.holds_of_wide 5 Try.f5 rfl rfl rfl rfl rfl rfl rfl ⟨rfl, rfl, rfl, rfl, rfl⟩ rfl rfl rfl rfl rfl (by kernel_rfl) Try.func5 (by kernel_rfl)
    (of_decide_eq_true (by kernel_rfl)) (by unfold Func.isWrapper; first | (rw [if_pos (by decide +kernel)]; kernel_rfl) | (rw [if_neg (by decide +kernel)]; exact ⟨rfl, rfl⟩))
    (fun os started H enc _ => lifted os started H enc)

/-- ████ THE STATEMENT ████ -/
theorem proved : Rows.FnSumPiecesSaid := over
#print axioms proved
end Go.Proofs.Ytkeiahjkbaejiaa.fnSumPieces
