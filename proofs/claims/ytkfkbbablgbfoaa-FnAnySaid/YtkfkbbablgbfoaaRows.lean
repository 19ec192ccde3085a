/-
  No cell of these rows narrows 'for every input' (looked for: loops, veiled, ifaces, maps, wideKeys, modest, calm, conditions, laid).
  DERIVED. THE GIVEN ROWS OF THIS SEAT. 4 by the template 'for every input the law returns true; each argument reads behind the call as it read before'; 0 by the template 'total and deterministic' (their statements: YtkfkbbablgbfoaaTotals.lean).
  GIVEN WITH THE SEED: the statements are not yours to turn. If you find one false, say at which input.
  Laid BY PROGRAM, IN A SANDBOX (cutbox-rows.mjs): the forced cells as the released guide's own fill.sh prints them over the translation 33db83578152fae8… (all of the seat's roots in one cut). By AI agents, Wed Nov 11 2026. No macro, syntax, notation, axiom, sorry.
-/
import Derived.Test.YtkfkbbablgbfoaaChecked
import GoSem.Claim
import GoSem.ClaimJoined
import GoSem.ClaimMapViews
import Derived.JoinedTies
import Derived.KernelRfl
namespace Go.Proofs.Ytkfkbbablgbfoaa
/- THE CELL 'sum', in the pinned program and in every row, IS THE sha256 OF THE DUMP (.gsa) THAT YtkfkbbablgbfoaaProg.lean LOADS. Nothing in Lean hashes anything: it is a label: what it is worth is what the hold of that sum in a sandbox is worth. -/
noncomputable def Try.pinned : Pinned := { name := "ytkfkbbablgbfoaa", sum := "33db83578152fae8af8999dda43e18735bbe7a028578ed11c3ca3ee7f9f1a4c7", checked := Try.checked }
namespace Rows
def none {H : Type} : Left H := { results := [], args := [] }

/-- 'laws.FnAny': WHATEVER THE INPUT: true; the input reads as it did. -/
def fnAnySpec : ChangeSpec := { name := "fnAny", fn := fun _ => fun
  | [d] => { results := [.lit (.bool true)], args := [d] }
  | _ => none }
def fnAnyRow : OpenClaim := { program := "ytkfkbbablgbfoaa", sum := "33db83578152fae8af8999dda43e18735bbe7a028578ed11c3ca3ee7f9f1a4c7", func := "loop.example/pub-g03436/laws.FnAny", spec := "fnAny", unfollowed := true, recurses := true, apart := false }
def FnAnySaid : Prop := fnAnyRow.holds Try.pinned (OpenSpec.ofChange fnAnySpec)

/-- ITS FALSE NEIGHBOUR: 'it returns false'. Refute it at one input. -/
def fnAnyWrong : ChangeSpec := { name := "fnAny", fn := fun _ => fun
  | [d] => { results := [.lit (.bool false)], args := [d] }
  | _ => none }
def FnAnyWrongFalsely : Prop := fnAnyRow.holds Try.pinned (OpenSpec.ofChange fnAnyWrong)

/-- 'laws.FnDict': WHATEVER THE INPUT: true; the input reads as it did. -/
def fnDictSpec : ChangeSpec := { name := "fnDict", fn := fun _ => fun
  | [d1, d2, d3, d4] => { results := [.lit (.bool true)], args := [d1, d2, d3, d4] }
  | _ => none }
def fnDictRow : OpenClaim := { program := "ytkfkbbablgbfoaa", sum := "33db83578152fae8af8999dda43e18735bbe7a028578ed11c3ca3ee7f9f1a4c7", func := "loop.example/pub-g03436/laws.FnDict", spec := "fnDict", unfollowed := true, recurses := true, apart := false }
def FnDictSaid : Prop := fnDictRow.holds Try.pinned (OpenSpec.ofChange fnDictSpec)

/-- ITS FALSE NEIGHBOUR: 'it returns false'. Refute it at one input. -/
def fnDictWrong : ChangeSpec := { name := "fnDict", fn := fun _ => fun
  | [d1, d2, d3, d4] => { results := [.lit (.bool false)], args := [d1, d2, d3, d4] }
  | _ => none }
def FnDictWrongFalsely : Prop := fnDictRow.holds Try.pinned (OpenSpec.ofChange fnDictWrong)

/-- 'laws.FnTooShort': WHATEVER THE INPUT: true; the input reads as it did. -/
def fnTooShortSpec : ChangeSpec := { name := "fnTooShort", fn := fun _ => fun
  | [d1, d2, d3] => { results := [.lit (.bool true)], args := [d1, d2, d3] }
  | _ => none }
def fnTooShortRow : OpenClaim := { program := "ytkfkbbablgbfoaa", sum := "33db83578152fae8af8999dda43e18735bbe7a028578ed11c3ca3ee7f9f1a4c7", func := "loop.example/pub-g03436/laws.FnTooShort", spec := "fnTooShort", unfollowed := true, recurses := true, apart := false }
def FnTooShortSaid : Prop := fnTooShortRow.holds Try.pinned (OpenSpec.ofChange fnTooShortSpec)

/-- ITS FALSE NEIGHBOUR: 'it returns false'. Refute it at one input. -/
def fnTooShortWrong : ChangeSpec := { name := "fnTooShort", fn := fun _ => fun
  | [d1, d2, d3] => { results := [.lit (.bool false)], args := [d1, d2, d3] }
  | _ => none }
def FnTooShortWrongFalsely : Prop := fnTooShortRow.holds Try.pinned (OpenSpec.ofChange fnTooShortWrong)

/-- 'laws.FnUncompress': WHATEVER THE INPUT: true; the input reads as it did. -/
def fnUncompressSpec : ChangeSpec := { name := "fnUncompress", fn := fun _ => fun
  | [d1, d2, d3] => { results := [.lit (.bool true)], args := [d1, d2, d3] }
  | _ => none }
def fnUncompressRow : OpenClaim := { program := "ytkfkbbablgbfoaa", sum := "33db83578152fae8af8999dda43e18735bbe7a028578ed11c3ca3ee7f9f1a4c7", func := "loop.example/pub-g03436/laws.FnUncompress", spec := "fnUncompress", unfollowed := true, recurses := true, apart := false }
def FnUncompressSaid : Prop := fnUncompressRow.holds Try.pinned (OpenSpec.ofChange fnUncompressSpec)

/-- ITS FALSE NEIGHBOUR: 'it returns false'. Refute it at one input. -/
def fnUncompressWrong : ChangeSpec := { name := "fnUncompress", fn := fun _ => fun
  | [d1, d2, d3] => { results := [.lit (.bool false)], args := [d1, d2, d3] }
  | _ => none }
def FnUncompressWrongFalsely : Prop := fnUncompressRow.holds Try.pinned (OpenSpec.ofChange fnUncompressWrong)

/- THE SECOND FORM. 'bulk': how many values and letters a reading holds, each counted each time it is reached (what is shared counts as often as it is met; a slice's spare places count too). A statement '..UptoSaid' is the law's where the arguments, and the package variables that the reading takes, are together of bulk at most 1048576: NARROWER than '..Said'. Prove '..Said' where nothing that the law and all that it calls make is longer than what came in: it says more and counts as full. Else prove '..UptoSaid'. A law counts once. -/
mutual
def uptoBulk {H : Type} : DataW H → Nat
  | .lit (.string bytes) => bytes.length + 1
  | .lit _ => 1
  | .nil => 1
  | .ptr d => uptoBulk d + 1
  | .slice elems spare => uptoBulkAll elems + uptoBulkAll spare + 1
  | .agg parts => uptoBulkAll parts + 1
  | .iface _ d => uptoBulk d + 1
  | .map entries => uptoBulkEntries entries + 1
  | .held _ => 1
def uptoBulkAll {H : Type} : List (DataW H) → Nat
  | [] => 0
  | d :: r => uptoBulk d + uptoBulkAll r
def uptoBulkEntries {H : Type} : List (Lit × DataW H) → Nat
  | [] => 0
  | x :: r => uptoBulkEntry x + uptoBulkEntries r
def uptoBulkEntry {H : Type} : Lit × DataW H → Nat
  | (.string bytes, d) => bytes.length + uptoBulk d + 1
  | (_, d) => uptoBulk d + 1
 end
def uptoSmall : (H : Type) → List (DataW H) → Bool := fun _ ds => decide (uptoBulkAll ds ≤ 1048576)
def OpenSpec.upto (s : _root_.Go.ChangeSpec) : _root_.Go.OpenSpec := { _root_.Go.OpenSpec.ofChange s with cond := some uptoSmall }

/-- 'laws.FnAny', WHERE WHAT IT READS IS OF BULK AT MOST 1048576: true; the input reads as it did. -/
def fnAnyUptoRow : OpenClaim := { program := "ytkfkbbablgbfoaa", sum := "33db83578152fae8af8999dda43e18735bbe7a028578ed11c3ca3ee7f9f1a4c7", func := "loop.example/pub-g03436/laws.FnAny", spec := "fnAny", unfollowed := true, recurses := true, apart := false, narrowed := true }
def FnAnyUptoSaid : Prop := fnAnyUptoRow.holds Try.pinned (OpenSpec.upto fnAnySpec)

/-- 'laws.FnDict', WHERE WHAT IT READS IS OF BULK AT MOST 1048576: true; the input reads as it did. -/
def fnDictUptoRow : OpenClaim := { program := "ytkfkbbablgbfoaa", sum := "33db83578152fae8af8999dda43e18735bbe7a028578ed11c3ca3ee7f9f1a4c7", func := "loop.example/pub-g03436/laws.FnDict", spec := "fnDict", unfollowed := true, recurses := true, apart := false, narrowed := true }
def FnDictUptoSaid : Prop := fnDictUptoRow.holds Try.pinned (OpenSpec.upto fnDictSpec)

/-- 'laws.FnTooShort', WHERE WHAT IT READS IS OF BULK AT MOST 1048576: true; the input reads as it did. -/
def fnTooShortUptoRow : OpenClaim := { program := "ytkfkbbablgbfoaa", sum := "33db83578152fae8af8999dda43e18735bbe7a028578ed11c3ca3ee7f9f1a4c7", func := "loop.example/pub-g03436/laws.FnTooShort", spec := "fnTooShort", unfollowed := true, recurses := true, apart := false, narrowed := true }
def FnTooShortUptoSaid : Prop := fnTooShortUptoRow.holds Try.pinned (OpenSpec.upto fnTooShortSpec)

/-- 'laws.FnUncompress', WHERE WHAT IT READS IS OF BULK AT MOST 1048576: true; the input reads as it did. -/
def fnUncompressUptoRow : OpenClaim := { program := "ytkfkbbablgbfoaa", sum := "33db83578152fae8af8999dda43e18735bbe7a028578ed11c3ca3ee7f9f1a4c7", func := "loop.example/pub-g03436/laws.FnUncompress", spec := "fnUncompress", unfollowed := true, recurses := true, apart := false, narrowed := true }
def FnUncompressUptoSaid : Prop := fnUncompressUptoRow.holds Try.pinned (OpenSpec.upto fnUncompressSpec)

end Rows
end Go.Proofs.Ytkfkbbablgbfoaa
