/-
  No cell of these rows narrows 'for every input' (looked for: loops, veiled, ifaces, maps, wideKeys, modest, calm, conditions, laid).
  DERIVED. THE GIVEN ROWS OF THIS SEAT. 3 by the template 'for every input the law returns true; each argument reads behind the call as it read before'; 0 by the template 'total and deterministic' (their statements: YtkeiahjkbaejiaaTotals.lean).
  GIVEN WITH THE SEED: the statements are not yours to turn. If you find one false, say at which input.
  Laid BY PROGRAM, IN A SANDBOX (cutbox-rows.mjs): the forced cells as the released guide's own fill.sh prints them over the translation fba5b975db73d0ae… (all of the seat's roots in one cut). By AI agents, Wed Nov 11 2026. No macro, syntax, notation, axiom, sorry.
-/
import Derived.Test.YtkeiahjkbaejiaaChecked
import GoSem.Claim
import GoSem.ClaimJoined
import GoSem.ClaimMapViews
import Derived.JoinedTies
import Derived.KernelRfl
namespace Go.Proofs.Ytkeiahjkbaejiaa
/- THE CELL 'sum', in the pinned program and in every row, IS THE sha256 OF THE DUMP (.gsa) THAT YtkeiahjkbaejiaaProg.lean LOADS. Nothing in Lean hashes anything: it is a label: what it is worth is what the hold of that sum in a sandbox is worth. -/
noncomputable def Try.pinned : Pinned := { name := "ytkeiahjkbaejiaa", sum := "fba5b975db73d0ae02ff19f89c677eeabe1ce9f3d9c6f84a917f9934a96897f8", checked := Try.checked }
namespace Rows
def none {H : Type} : Left H := { results := [], args := [] }

/-- 'laws.FnBound': WHATEVER THE INPUT: true; the input reads as it did. -/
def fnBoundSpec : ChangeSpec := { name := "fnBound", fn := fun _ => fun
  | [d] => { results := [.lit (.bool true)], args := [d] }
  | _ => none }
def fnBoundRow : OpenClaim := { program := "ytkeiahjkbaejiaa", sum := "fba5b975db73d0ae02ff19f89c677eeabe1ce9f3d9c6f84a917f9934a96897f8", func := "loop.example/pub-g03436/laws.FnBound", spec := "fnBound", apart := false }
def FnBoundSaid : Prop := fnBoundRow.holds Try.pinned (OpenSpec.ofChange fnBoundSpec)

/-- ITS FALSE NEIGHBOUR: 'it returns false'. Refute it at one input. -/
def fnBoundWrong : ChangeSpec := { name := "fnBound", fn := fun _ => fun
  | [d] => { results := [.lit (.bool false)], args := [d] }
  | _ => none }
def FnBoundWrongFalsely : Prop := fnBoundRow.holds Try.pinned (OpenSpec.ofChange fnBoundWrong)

/-- 'laws.FnSum': WHATEVER THE INPUT: true; the input reads as it did. -/
def fnSumSpec : ChangeSpec := { name := "fnSum", fn := fun _ => fun
  | [d] => { results := [.lit (.bool true)], args := [d] }
  | _ => none }
def fnSumRow : OpenClaim := { program := "ytkeiahjkbaejiaa", sum := "fba5b975db73d0ae02ff19f89c677eeabe1ce9f3d9c6f84a917f9934a96897f8", func := "loop.example/pub-g03436/laws.FnSum", spec := "fnSum", apart := false }
def FnSumSaid : Prop := fnSumRow.holds Try.pinned (OpenSpec.ofChange fnSumSpec)

/-- ITS FALSE NEIGHBOUR: 'it returns false'. Refute it at one input. -/
def fnSumWrong : ChangeSpec := { name := "fnSum", fn := fun _ => fun
  | [d] => { results := [.lit (.bool false)], args := [d] }
  | _ => none }
def FnSumWrongFalsely : Prop := fnSumRow.holds Try.pinned (OpenSpec.ofChange fnSumWrong)

/-- 'laws.FnSumPieces': WHATEVER THE INPUT: true; the input reads as it did. -/
def fnSumPiecesSpec : ChangeSpec := { name := "fnSumPieces", fn := fun _ => fun
  | [d1, d2] => { results := [.lit (.bool true)], args := [d1, d2] }
  | _ => none }
def fnSumPiecesRow : OpenClaim := { program := "ytkeiahjkbaejiaa", sum := "fba5b975db73d0ae02ff19f89c677eeabe1ce9f3d9c6f84a917f9934a96897f8", func := "loop.example/pub-g03436/laws.FnSumPieces", spec := "fnSumPieces", apart := false }
def FnSumPiecesSaid : Prop := fnSumPiecesRow.holds Try.pinned (OpenSpec.ofChange fnSumPiecesSpec)

/-- ITS FALSE NEIGHBOUR: 'it returns false'. Refute it at one input. -/
def fnSumPiecesWrong : ChangeSpec := { name := "fnSumPieces", fn := fun _ => fun
  | [d1, d2] => { results := [.lit (.bool false)], args := [d1, d2] }
  | _ => none }
def FnSumPiecesWrongFalsely : Prop := fnSumPiecesRow.holds Try.pinned (OpenSpec.ofChange fnSumPiecesWrong)

/- THE SECOND FORM. 'bulk': how many values and letters a reading holds, each counted each time it is reached (what is shared counts as often as it is met; a slice's spare places count too). A statement '..UptoSaid' is the law's where the arguments, and the package variables that the reading takes, are together of bulk at most 1048576: NARROWER than '..Said'. Prove '..Said' where nothing that the law and all that it calls make is longer than what came in: it says more and counts as full. Else prove '..UptoSaid'. A law counts once. -/
mutual
def uptoBulk {H : Type} : DataW H → Nat
  | .lit (.string bytes) => bytes.length + 1
  | .lit _ => 1
  | .nil => 1
  | .ptr d => uptoBulk d + 1
  | .slice elems spare => uptoBulkAll elems + uptoBulkAll spare + 1
  | .agg parts => uptoBulkAll parts + 1
  | .iface _ d => uptoBulk d + 1
  | .map entries => uptoBulkEntries entries + 1
  | .held _ => 1
def uptoBulkAll {H : Type} : List (DataW H) → Nat
  | [] => 0
  | d :: r => uptoBulk d + uptoBulkAll r
def uptoBulkEntries {H : Type} : List (Lit × DataW H) → Nat
  | [] => 0
  | x :: r => uptoBulkEntry x + uptoBulkEntries r
def uptoBulkEntry {H : Type} : Lit × DataW H → Nat
  | (.string bytes, d) => bytes.length + uptoBulk d + 1
  | (_, d) => uptoBulk d + 1
 end
def uptoSmall : (H : Type) → List (DataW H) → Bool := fun _ ds => decide (uptoBulkAll ds ≤ 1048576)
def OpenSpec.upto (s : _root_.Go.ChangeSpec) : _root_.Go.OpenSpec := { _root_.Go.OpenSpec.ofChange s with cond := some uptoSmall }

/-- 'laws.FnBound', WHERE WHAT IT READS IS OF BULK AT MOST 1048576: true; the input reads as it did. -/
def fnBoundUptoRow : OpenClaim := { program := "ytkeiahjkbaejiaa", sum := "fba5b975db73d0ae02ff19f89c677eeabe1ce9f3d9c6f84a917f9934a96897f8", func := "loop.example/pub-g03436/laws.FnBound", spec := "fnBound", apart := false, narrowed := true }
def FnBoundUptoSaid : Prop := fnBoundUptoRow.holds Try.pinned (OpenSpec.upto fnBoundSpec)

/-- 'laws.FnSum', WHERE WHAT IT READS IS OF BULK AT MOST 1048576: true; the input reads as it did. -/
def fnSumUptoRow : OpenClaim := { program := "ytkeiahjkbaejiaa", sum := "fba5b975db73d0ae02ff19f89c677eeabe1ce9f3d9c6f84a917f9934a96897f8", func := "loop.example/pub-g03436/laws.FnSum", spec := "fnSum", apart := false, narrowed := true }
def FnSumUptoSaid : Prop := fnSumUptoRow.holds Try.pinned (OpenSpec.upto fnSumSpec)

/-- 'laws.FnSumPieces', WHERE WHAT IT READS IS OF BULK AT MOST 1048576: true; the input reads as it did. -/
def fnSumPiecesUptoRow : OpenClaim := { program := "ytkeiahjkbaejiaa", sum := "fba5b975db73d0ae02ff19f89c677eeabe1ce9f3d9c6f84a917f9934a96897f8", func := "loop.example/pub-g03436/laws.FnSumPieces", spec := "fnSumPieces", apart := false, narrowed := true }
def FnSumPiecesUptoSaid : Prop := fnSumPiecesUptoRow.holds Try.pinned (OpenSpec.upto fnSumPiecesSpec)

end Rows
end Go.Proofs.Ytkeiahjkbaejiaa
