/-
  No cell of these rows narrows 'for every input' (looked for: loops, veiled, ifaces, maps, wideKeys, modest, calm, conditions, laid).
  DERIVED. THE GIVEN ROWS OF THIS SEAT. 8 by the template 'for every input the law returns true; each argument reads behind the call as it read before'; 0 by the template 'total and deterministic' (their statements: YtdocgembogocjaaTotals.lean).
  GIVEN WITH THE SEED: the statements are not yours to turn. If you find one false, say at which input.
  Laid BY PROGRAM, IN A SANDBOX (cutbox-rows.mjs): the forced cells as the released guide's own fill.sh prints them over the translation ac636219b177dfa0… (all of the seat's roots in one cut). By AI agents, Wed Nov 11 2026. No macro, syntax, notation, axiom, sorry.
-/
import Derived.Test.YtdocgembogocjaaChecked
import GoSem.Claim
import GoSem.ClaimJoined
import GoSem.ClaimMapViews
import Derived.JoinedTies
import Derived.KernelRfl
namespace Go.Proofs.Ytdocgembogocjaa
/- THE CELL 'sum', in the pinned program and in every row, IS THE sha256 OF THE DUMP (.gsa) THAT YtdocgembogocjaaProg.lean LOADS. Nothing in Lean hashes anything: it is a label: what it is worth is what the hold of that sum in a sandbox is worth. -/
noncomputable def Try.pinned : Pinned := { name := "ytdocgembogocjaa", sum := "ac636219b177dfa02049b652c530ca30979d2c0a2ac25729a4ac7f5342926d83", checked := Try.checked }
namespace Rows
def none {H : Type} : Left H := { results := [], args := [] }

/-- 'laws.FnExactReadEnum': WHATEVER THE INPUT: true; the input reads as it did. -/
def fnExactReadEnumSpec : ChangeSpec := { name := "fnExactReadEnum", fn := fun _ => fun
  | [d] => { results := [.lit (.bool true)], args := [d] }
  | _ => none }
def fnExactReadEnumRow : OpenClaim := { program := "ytdocgembogocjaa", sum := "ac636219b177dfa02049b652c530ca30979d2c0a2ac25729a4ac7f5342926d83", func := "loop.example/pub-g03335/laws.FnExactReadEnum", spec := "fnExactReadEnum", apart := false }
def FnExactReadEnumSaid : Prop := fnExactReadEnumRow.holds Try.pinned (OpenSpec.ofChange fnExactReadEnumSpec)

/-- ITS FALSE NEIGHBOUR: 'it returns false'. Refute it at one input. -/
def fnExactReadEnumWrong : ChangeSpec := { name := "fnExactReadEnum", fn := fun _ => fun
  | [d] => { results := [.lit (.bool false)], args := [d] }
  | _ => none }
def FnExactReadEnumWrongFalsely : Prop := fnExactReadEnumRow.holds Try.pinned (OpenSpec.ofChange fnExactReadEnumWrong)

/-- 'laws.FnExactReadUint': WHATEVER THE INPUT: true; the input reads as it did. -/
def fnExactReadUintSpec : ChangeSpec := { name := "fnExactReadUint", fn := fun _ => fun
  | [d] => { results := [.lit (.bool true)], args := [d] }
  | _ => none }
def fnExactReadUintRow : OpenClaim := { program := "ytdocgembogocjaa", sum := "ac636219b177dfa02049b652c530ca30979d2c0a2ac25729a4ac7f5342926d83", func := "loop.example/pub-g03335/laws.FnExactReadUint", spec := "fnExactReadUint", apart := false }
def FnExactReadUintSaid : Prop := fnExactReadUintRow.holds Try.pinned (OpenSpec.ofChange fnExactReadUintSpec)

/-- ITS FALSE NEIGHBOUR: 'it returns false'. Refute it at one input. -/
def fnExactReadUintWrong : ChangeSpec := { name := "fnExactReadUint", fn := fun _ => fun
  | [d] => { results := [.lit (.bool false)], args := [d] }
  | _ => none }
def FnExactReadUintWrongFalsely : Prop := fnExactReadUintRow.holds Try.pinned (OpenSpec.ofChange fnExactReadUintWrong)

/-- 'laws.FnEnumTagged': WHATEVER THE INPUT: true; the input reads as it did. -/
def fnEnumTaggedSpec : ChangeSpec := { name := "fnEnumTagged", fn := fun _ => fun
  | [d] => { results := [.lit (.bool true)], args := [d] }
  | _ => none }
def fnEnumTaggedRow : OpenClaim := { program := "ytdocgembogocjaa", sum := "ac636219b177dfa02049b652c530ca30979d2c0a2ac25729a4ac7f5342926d83", func := "loop.example/pub-g03335/laws.FnEnumTagged", spec := "fnEnumTagged", apart := false }
def FnEnumTaggedSaid : Prop := fnEnumTaggedRow.holds Try.pinned (OpenSpec.ofChange fnEnumTaggedSpec)

/-- ITS FALSE NEIGHBOUR: 'it returns false'. Refute it at one input. -/
def fnEnumTaggedWrong : ChangeSpec := { name := "fnEnumTagged", fn := fun _ => fun
  | [d] => { results := [.lit (.bool false)], args := [d] }
  | _ => none }
def FnEnumTaggedWrongFalsely : Prop := fnEnumTaggedRow.holds Try.pinned (OpenSpec.ofChange fnEnumTaggedWrong)

/-- 'laws.FnUintBytes': WHATEVER THE INPUT: true; the input reads as it did. -/
def fnUintBytesSpec : ChangeSpec := { name := "fnUintBytes", fn := fun _ => fun
  | [d] => { results := [.lit (.bool true)], args := [d] }
  | _ => none }
def fnUintBytesRow : OpenClaim := { program := "ytdocgembogocjaa", sum := "ac636219b177dfa02049b652c530ca30979d2c0a2ac25729a4ac7f5342926d83", func := "loop.example/pub-g03335/laws.FnUintBytes", spec := "fnUintBytes", apart := false }
def FnUintBytesSaid : Prop := fnUintBytesRow.holds Try.pinned (OpenSpec.ofChange fnUintBytesSpec)

/-- ITS FALSE NEIGHBOUR: 'it returns false'. Refute it at one input. -/
def fnUintBytesWrong : ChangeSpec := { name := "fnUintBytes", fn := fun _ => fun
  | [d] => { results := [.lit (.bool false)], args := [d] }
  | _ => none }
def FnUintBytesWrongFalsely : Prop := fnUintBytesRow.holds Try.pinned (OpenSpec.ofChange fnUintBytesWrong)

/-- 'laws.FnExactReadBits': WHATEVER THE INPUT: true; the input reads as it did. -/
def fnExactReadBitsSpec : ChangeSpec := { name := "fnExactReadBits", fn := fun _ => fun
  | [d] => { results := [.lit (.bool true)], args := [d] }
  | _ => none }
def fnExactReadBitsRow : OpenClaim := { program := "ytdocgembogocjaa", sum := "ac636219b177dfa02049b652c530ca30979d2c0a2ac25729a4ac7f5342926d83", func := "loop.example/pub-g03335/laws.FnExactReadBits", spec := "fnExactReadBits", apart := false }
def FnExactReadBitsSaid : Prop := fnExactReadBitsRow.holds Try.pinned (OpenSpec.ofChange fnExactReadBitsSpec)

/-- ITS FALSE NEIGHBOUR: 'it returns false'. Refute it at one input. -/
def fnExactReadBitsWrong : ChangeSpec := { name := "fnExactReadBits", fn := fun _ => fun
  | [d] => { results := [.lit (.bool false)], args := [d] }
  | _ => none }
def FnExactReadBitsWrongFalsely : Prop := fnExactReadBitsRow.holds Try.pinned (OpenSpec.ofChange fnExactReadBitsWrong)

/-- 'laws.FnBitsFill': WHATEVER THE INPUT: true; the input reads as it did. -/
def fnBitsFillSpec : ChangeSpec := { name := "fnBitsFill", fn := fun _ => fun
  | [d] => { results := [.lit (.bool true)], args := [d] }
  | _ => none }
def fnBitsFillRow : OpenClaim := { program := "ytdocgembogocjaa", sum := "ac636219b177dfa02049b652c530ca30979d2c0a2ac25729a4ac7f5342926d83", func := "loop.example/pub-g03335/laws.FnBitsFill", spec := "fnBitsFill", apart := false }
def FnBitsFillSaid : Prop := fnBitsFillRow.holds Try.pinned (OpenSpec.ofChange fnBitsFillSpec)

/-- ITS FALSE NEIGHBOUR: 'it returns false'. Refute it at one input. -/
def fnBitsFillWrong : ChangeSpec := { name := "fnBitsFill", fn := fun _ => fun
  | [d] => { results := [.lit (.bool false)], args := [d] }
  | _ => none }
def FnBitsFillWrongFalsely : Prop := fnBitsFillRow.holds Try.pinned (OpenSpec.ofChange fnBitsFillWrong)

/-- 'laws.FnNotShortest': WHATEVER THE INPUT: true; the input reads as it did. -/
def fnNotShortestSpec : ChangeSpec := { name := "fnNotShortest", fn := fun _ => fun
  | [d1, d2, d3] => { results := [.lit (.bool true)], args := [d1, d2, d3] }
  | _ => none }
def fnNotShortestRow : OpenClaim := { program := "ytdocgembogocjaa", sum := "ac636219b177dfa02049b652c530ca30979d2c0a2ac25729a4ac7f5342926d83", func := "loop.example/pub-g03335/laws.FnNotShortest", spec := "fnNotShortest", apart := false }
def FnNotShortestSaid : Prop := fnNotShortestRow.holds Try.pinned (OpenSpec.ofChange fnNotShortestSpec)

/-- ITS FALSE NEIGHBOUR: 'it returns false'. Refute it at one input. -/
def fnNotShortestWrong : ChangeSpec := { name := "fnNotShortest", fn := fun _ => fun
  | [d1, d2, d3] => { results := [.lit (.bool false)], args := [d1, d2, d3] }
  | _ => none }
def FnNotShortestWrongFalsely : Prop := fnNotShortestRow.holds Try.pinned (OpenSpec.ofChange fnNotShortestWrong)

/-- 'laws.FnExactReadOID': WHATEVER THE INPUT: true; the input reads as it did. -/
def fnExactReadOIDSpec : ChangeSpec := { name := "fnExactReadOID", fn := fun _ => fun
  | [d] => { results := [.lit (.bool true)], args := [d] }
  | _ => none }
def fnExactReadOIDRow : OpenClaim := { program := "ytdocgembogocjaa", sum := "ac636219b177dfa02049b652c530ca30979d2c0a2ac25729a4ac7f5342926d83", func := "loop.example/pub-g03335/laws.FnExactReadOID", spec := "fnExactReadOID", apart := false }
def FnExactReadOIDSaid : Prop := fnExactReadOIDRow.holds Try.pinned (OpenSpec.ofChange fnExactReadOIDSpec)

/-- ITS FALSE NEIGHBOUR: 'it returns false'. Refute it at one input. -/
def fnExactReadOIDWrong : ChangeSpec := { name := "fnExactReadOID", fn := fun _ => fun
  | [d] => { results := [.lit (.bool false)], args := [d] }
  | _ => none }
def FnExactReadOIDWrongFalsely : Prop := fnExactReadOIDRow.holds Try.pinned (OpenSpec.ofChange fnExactReadOIDWrong)

/- THE SECOND FORM. 'bulk': how many values and letters a reading holds, each counted each time it is reached (what is shared counts as often as it is met; a slice's spare places count too). A statement '..UptoSaid' is the law's where the arguments, and the package variables that the reading takes, are together of bulk at most 1048576: NARROWER than '..Said'. Prove '..Said' where nothing that the law and all that it calls make is longer than what came in: it says more and counts as full. Else prove '..UptoSaid'. A law counts once. -/
mutual
def uptoBulk {H : Type} : DataW H → Nat
  | .lit (.string bytes) => bytes.length + 1
  | .lit _ => 1
  | .nil => 1
  | .ptr d => uptoBulk d + 1
  | .slice elems spare => uptoBulkAll elems + uptoBulkAll spare + 1
  | .agg parts => uptoBulkAll parts + 1
  | .iface _ d => uptoBulk d + 1
  | .map entries => uptoBulkEntries entries + 1
  | .held _ => 1
def uptoBulkAll {H : Type} : List (DataW H) → Nat
  | [] => 0
  | d :: r => uptoBulk d + uptoBulkAll r
def uptoBulkEntries {H : Type} : List (Lit × DataW H) → Nat
  | [] => 0
  | x :: r => uptoBulkEntry x + uptoBulkEntries r
def uptoBulkEntry {H : Type} : Lit × DataW H → Nat
  | (.string bytes, d) => bytes.length + uptoBulk d + 1
  | (_, d) => uptoBulk d + 1
 end
def uptoSmall : (H : Type) → List (DataW H) → Bool := fun _ ds => decide (uptoBulkAll ds ≤ 1048576)
def OpenSpec.upto (s : _root_.Go.ChangeSpec) : _root_.Go.OpenSpec := { _root_.Go.OpenSpec.ofChange s with cond := some uptoSmall }

/-- 'laws.FnExactReadEnum', WHERE WHAT IT READS IS OF BULK AT MOST 1048576: true; the input reads as it did. -/
def fnExactReadEnumUptoRow : OpenClaim := { program := "ytdocgembogocjaa", sum := "ac636219b177dfa02049b652c530ca30979d2c0a2ac25729a4ac7f5342926d83", func := "loop.example/pub-g03335/laws.FnExactReadEnum", spec := "fnExactReadEnum", apart := false, narrowed := true }
def FnExactReadEnumUptoSaid : Prop := fnExactReadEnumUptoRow.holds Try.pinned (OpenSpec.upto fnExactReadEnumSpec)

/-- 'laws.FnExactReadUint', WHERE WHAT IT READS IS OF BULK AT MOST 1048576: true; the input reads as it did. -/
def fnExactReadUintUptoRow : OpenClaim := { program := "ytdocgembogocjaa", sum := "ac636219b177dfa02049b652c530ca30979d2c0a2ac25729a4ac7f5342926d83", func := "loop.example/pub-g03335/laws.FnExactReadUint", spec := "fnExactReadUint", apart := false, narrowed := true }
def FnExactReadUintUptoSaid : Prop := fnExactReadUintUptoRow.holds Try.pinned (OpenSpec.upto fnExactReadUintSpec)

/-- 'laws.FnEnumTagged', WHERE WHAT IT READS IS OF BULK AT MOST 1048576: true; the input reads as it did. -/
def fnEnumTaggedUptoRow : OpenClaim := { program := "ytdocgembogocjaa", sum := "ac636219b177dfa02049b652c530ca30979d2c0a2ac25729a4ac7f5342926d83", func := "loop.example/pub-g03335/laws.FnEnumTagged", spec := "fnEnumTagged", apart := false, narrowed := true }
def FnEnumTaggedUptoSaid : Prop := fnEnumTaggedUptoRow.holds Try.pinned (OpenSpec.upto fnEnumTaggedSpec)

/-- 'laws.FnUintBytes', WHERE WHAT IT READS IS OF BULK AT MOST 1048576: true; the input reads as it did. -/
def fnUintBytesUptoRow : OpenClaim := { program := "ytdocgembogocjaa", sum := "ac636219b177dfa02049b652c530ca30979d2c0a2ac25729a4ac7f5342926d83", func := "loop.example/pub-g03335/laws.FnUintBytes", spec := "fnUintBytes", apart := false, narrowed := true }
def FnUintBytesUptoSaid : Prop := fnUintBytesUptoRow.holds Try.pinned (OpenSpec.upto fnUintBytesSpec)

/-- 'laws.FnExactReadBits', WHERE WHAT IT READS IS OF BULK AT MOST 1048576: true; the input reads as it did. -/
def fnExactReadBitsUptoRow : OpenClaim := { program := "ytdocgembogocjaa", sum := "ac636219b177dfa02049b652c530ca30979d2c0a2ac25729a4ac7f5342926d83", func := "loop.example/pub-g03335/laws.FnExactReadBits", spec := "fnExactReadBits", apart := false, narrowed := true }
def FnExactReadBitsUptoSaid : Prop := fnExactReadBitsUptoRow.holds Try.pinned (OpenSpec.upto fnExactReadBitsSpec)

/-- 'laws.FnBitsFill', WHERE WHAT IT READS IS OF BULK AT MOST 1048576: true; the input reads as it did. -/
def fnBitsFillUptoRow : OpenClaim := { program := "ytdocgembogocjaa", sum := "ac636219b177dfa02049b652c530ca30979d2c0a2ac25729a4ac7f5342926d83", func := "loop.example/pub-g03335/laws.FnBitsFill", spec := "fnBitsFill", apart := false, narrowed := true }
def FnBitsFillUptoSaid : Prop := fnBitsFillUptoRow.holds Try.pinned (OpenSpec.upto fnBitsFillSpec)

/-- 'laws.FnNotShortest', WHERE WHAT IT READS IS OF BULK AT MOST 1048576: true; the input reads as it did. -/
def fnNotShortestUptoRow : OpenClaim := { program := "ytdocgembogocjaa", sum := "ac636219b177dfa02049b652c530ca30979d2c0a2ac25729a4ac7f5342926d83", func := "loop.example/pub-g03335/laws.FnNotShortest", spec := "fnNotShortest", apart := false, narrowed := true }
def FnNotShortestUptoSaid : Prop := fnNotShortestUptoRow.holds Try.pinned (OpenSpec.upto fnNotShortestSpec)

/-- 'laws.FnExactReadOID', WHERE WHAT IT READS IS OF BULK AT MOST 1048576: true; the input reads as it did. -/
def fnExactReadOIDUptoRow : OpenClaim := { program := "ytdocgembogocjaa", sum := "ac636219b177dfa02049b652c530ca30979d2c0a2ac25729a4ac7f5342926d83", func := "loop.example/pub-g03335/laws.FnExactReadOID", spec := "fnExactReadOID", apart := false, narrowed := true }
def FnExactReadOIDUptoSaid : Prop := fnExactReadOIDUptoRow.holds Try.pinned (OpenSpec.upto fnExactReadOIDSpec)

end Rows
end Go.Proofs.Ytdocgembogocjaa
