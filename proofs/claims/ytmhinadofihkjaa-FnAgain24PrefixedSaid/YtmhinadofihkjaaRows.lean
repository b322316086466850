/-
  No cell of these rows narrows 'for every input' (looked for: loops, veiled, ifaces, maps, wideKeys, modest, calm, conditions, laid).
  DERIVED. THE GIVEN ROWS OF THIS SEAT. 13 by the template 'for every input the law returns true; each argument reads behind the call as it read before'; 0 by the template 'total and deterministic' (their statements: YtmhinadofihkjaaTotals.lean).
  GIVEN WITH THE SEED: the statements are not yours to turn. If you find one false, say at which input.
  Laid BY PROGRAM, IN A SANDBOX (cutbox-rows.mjs): the forced cells as the released guide's own fill.sh prints them over the translation d87055096ebf53b2… (all of the seat's roots in one cut). By AI agents, Wed Nov 11 2026. No macro, syntax, notation, axiom, sorry.
-/
import Derived.Test.YtmhinadofihkjaaChecked
import GoSem.Claim
import GoSem.ClaimJoined
import GoSem.ClaimMapViews
import Derived.JoinedTies
import Derived.KernelRfl
namespace Go.Proofs.Ytmhinadofihkjaa
/- THE CELL 'sum', in the pinned program and in every row, IS THE sha256 OF THE DUMP (.gsa) THAT YtmhinadofihkjaaProg.lean LOADS. Nothing in Lean hashes anything: it is a label: what it is worth is what the hold of that sum in a sandbox is worth. -/
noncomputable def Try.pinned : Pinned := { name := "ytmhinadofihkjaa", sum := "d87055096ebf53b28926029fd87f28f5438e1d04e997c92d1b1dfc0b45c9b87c", checked := Try.checked }
namespace Rows
def none {H : Type} : Left H := { results := [], args := [] }

/-- 'laws.FnExactAddUint16': WHATEVER THE INPUT: true; the input reads as it did. -/
def fnExactAddUint16Spec : ChangeSpec := { name := "fnExactAddUint16", fn := fun _ => fun
  | [d] => { results := [.lit (.bool true)], args := [d] }
  | _ => none }
def fnExactAddUint16Row : OpenClaim := { program := "ytmhinadofihkjaa", sum := "d87055096ebf53b28926029fd87f28f5438e1d04e997c92d1b1dfc0b45c9b87c", func := "loop.example/pub-g03335/laws.FnExactAddUint16", spec := "fnExactAddUint16", apart := false }
def FnExactAddUint16Said : Prop := fnExactAddUint16Row.holds Try.pinned (OpenSpec.ofChange fnExactAddUint16Spec)

/-- ITS FALSE NEIGHBOUR: 'it returns false'. Refute it at one input. -/
def fnExactAddUint16Wrong : ChangeSpec := { name := "fnExactAddUint16", fn := fun _ => fun
  | [d] => { results := [.lit (.bool false)], args := [d] }
  | _ => none }
def FnExactAddUint16WrongFalsely : Prop := fnExactAddUint16Row.holds Try.pinned (OpenSpec.ofChange fnExactAddUint16Wrong)

/-- 'laws.FnExactAddUint32': WHATEVER THE INPUT: true; the input reads as it did. -/
def fnExactAddUint32Spec : ChangeSpec := { name := "fnExactAddUint32", fn := fun _ => fun
  | [d] => { results := [.lit (.bool true)], args := [d] }
  | _ => none }
def fnExactAddUint32Row : OpenClaim := { program := "ytmhinadofihkjaa", sum := "d87055096ebf53b28926029fd87f28f5438e1d04e997c92d1b1dfc0b45c9b87c", func := "loop.example/pub-g03335/laws.FnExactAddUint32", spec := "fnExactAddUint32", apart := false }
def FnExactAddUint32Said : Prop := fnExactAddUint32Row.holds Try.pinned (OpenSpec.ofChange fnExactAddUint32Spec)

/-- ITS FALSE NEIGHBOUR: 'it returns false'. Refute it at one input. -/
def fnExactAddUint32Wrong : ChangeSpec := { name := "fnExactAddUint32", fn := fun _ => fun
  | [d] => { results := [.lit (.bool false)], args := [d] }
  | _ => none }
def FnExactAddUint32WrongFalsely : Prop := fnExactAddUint32Row.holds Try.pinned (OpenSpec.ofChange fnExactAddUint32Wrong)

/-- 'laws.FnExactAddUint64': WHATEVER THE INPUT: true; the input reads as it did. -/
def fnExactAddUint64Spec : ChangeSpec := { name := "fnExactAddUint64", fn := fun _ => fun
  | [d] => { results := [.lit (.bool true)], args := [d] }
  | _ => none }
def fnExactAddUint64Row : OpenClaim := { program := "ytmhinadofihkjaa", sum := "d87055096ebf53b28926029fd87f28f5438e1d04e997c92d1b1dfc0b45c9b87c", func := "loop.example/pub-g03335/laws.FnExactAddUint64", spec := "fnExactAddUint64", apart := false }
def FnExactAddUint64Said : Prop := fnExactAddUint64Row.holds Try.pinned (OpenSpec.ofChange fnExactAddUint64Spec)

/-- ITS FALSE NEIGHBOUR: 'it returns false'. Refute it at one input. -/
def fnExactAddUint64Wrong : ChangeSpec := { name := "fnExactAddUint64", fn := fun _ => fun
  | [d] => { results := [.lit (.bool false)], args := [d] }
  | _ => none }
def FnExactAddUint64WrongFalsely : Prop := fnExactAddUint64Row.holds Try.pinned (OpenSpec.ofChange fnExactAddUint64Wrong)

/-- 'laws.FnBackUint16': WHATEVER THE INPUT: true; the input reads as it did. -/
def fnBackUint16Spec : ChangeSpec := { name := "fnBackUint16", fn := fun _ => fun
  | [d1, d2] => { results := [.lit (.bool true)], args := [d1, d2] }
  | _ => none }
def fnBackUint16Row : OpenClaim := { program := "ytmhinadofihkjaa", sum := "d87055096ebf53b28926029fd87f28f5438e1d04e997c92d1b1dfc0b45c9b87c", func := "loop.example/pub-g03335/laws.FnBackUint16", spec := "fnBackUint16", apart := false }
def FnBackUint16Said : Prop := fnBackUint16Row.holds Try.pinned (OpenSpec.ofChange fnBackUint16Spec)

/-- ITS FALSE NEIGHBOUR: 'it returns false'. Refute it at one input. -/
def fnBackUint16Wrong : ChangeSpec := { name := "fnBackUint16", fn := fun _ => fun
  | [d1, d2] => { results := [.lit (.bool false)], args := [d1, d2] }
  | _ => none }
def FnBackUint16WrongFalsely : Prop := fnBackUint16Row.holds Try.pinned (OpenSpec.ofChange fnBackUint16Wrong)

/-- 'laws.FnBackUint32': WHATEVER THE INPUT: true; the input reads as it did. -/
def fnBackUint32Spec : ChangeSpec := { name := "fnBackUint32", fn := fun _ => fun
  | [d1, d2] => { results := [.lit (.bool true)], args := [d1, d2] }
  | _ => none }
def fnBackUint32Row : OpenClaim := { program := "ytmhinadofihkjaa", sum := "d87055096ebf53b28926029fd87f28f5438e1d04e997c92d1b1dfc0b45c9b87c", func := "loop.example/pub-g03335/laws.FnBackUint32", spec := "fnBackUint32", apart := false }
def FnBackUint32Said : Prop := fnBackUint32Row.holds Try.pinned (OpenSpec.ofChange fnBackUint32Spec)

/-- ITS FALSE NEIGHBOUR: 'it returns false'. Refute it at one input. -/
def fnBackUint32Wrong : ChangeSpec := { name := "fnBackUint32", fn := fun _ => fun
  | [d1, d2] => { results := [.lit (.bool false)], args := [d1, d2] }
  | _ => none }
def FnBackUint32WrongFalsely : Prop := fnBackUint32Row.holds Try.pinned (OpenSpec.ofChange fnBackUint32Wrong)

/-- 'laws.FnBackUint64': WHATEVER THE INPUT: true; the input reads as it did. -/
def fnBackUint64Spec : ChangeSpec := { name := "fnBackUint64", fn := fun _ => fun
  | [d1, d2] => { results := [.lit (.bool true)], args := [d1, d2] }
  | _ => none }
def fnBackUint64Row : OpenClaim := { program := "ytmhinadofihkjaa", sum := "d87055096ebf53b28926029fd87f28f5438e1d04e997c92d1b1dfc0b45c9b87c", func := "loop.example/pub-g03335/laws.FnBackUint64", spec := "fnBackUint64", apart := false }
def FnBackUint64Said : Prop := fnBackUint64Row.holds Try.pinned (OpenSpec.ofChange fnBackUint64Spec)

/-- ITS FALSE NEIGHBOUR: 'it returns false'. Refute it at one input. -/
def fnBackUint64Wrong : ChangeSpec := { name := "fnBackUint64", fn := fun _ => fun
  | [d1, d2] => { results := [.lit (.bool false)], args := [d1, d2] }
  | _ => none }
def FnBackUint64WrongFalsely : Prop := fnBackUint64Row.holds Try.pinned (OpenSpec.ofChange fnBackUint64Wrong)

/-- 'laws.FnExactAdd24Prefixed': WHATEVER THE INPUT: true; the input reads as it did. -/
def fnExactAdd24PrefixedSpec : ChangeSpec := { name := "fnExactAdd24Prefixed", fn := fun _ => fun
  | [d] => { results := [.lit (.bool true)], args := [d] }
  | _ => none }
def fnExactAdd24PrefixedRow : OpenClaim := { program := "ytmhinadofihkjaa", sum := "d87055096ebf53b28926029fd87f28f5438e1d04e997c92d1b1dfc0b45c9b87c", func := "loop.example/pub-g03335/laws.FnExactAdd24Prefixed", spec := "fnExactAdd24Prefixed", unfollowed := true, recurses := true, apart := false }
def FnExactAdd24PrefixedSaid : Prop := fnExactAdd24PrefixedRow.holds Try.pinned (OpenSpec.ofChange fnExactAdd24PrefixedSpec)

/-- ITS FALSE NEIGHBOUR: 'it returns false'. Refute it at one input. -/
def fnExactAdd24PrefixedWrong : ChangeSpec := { name := "fnExactAdd24Prefixed", fn := fun _ => fun
  | [d] => { results := [.lit (.bool false)], args := [d] }
  | _ => none }
def FnExactAdd24PrefixedWrongFalsely : Prop := fnExactAdd24PrefixedRow.holds Try.pinned (OpenSpec.ofChange fnExactAdd24PrefixedWrong)

/-- 'laws.FnExactAdd8Prefixed': WHATEVER THE INPUT: true; the input reads as it did. -/
def fnExactAdd8PrefixedSpec : ChangeSpec := { name := "fnExactAdd8Prefixed", fn := fun _ => fun
  | [d] => { results := [.lit (.bool true)], args := [d] }
  | _ => none }
def fnExactAdd8PrefixedRow : OpenClaim := { program := "ytmhinadofihkjaa", sum := "d87055096ebf53b28926029fd87f28f5438e1d04e997c92d1b1dfc0b45c9b87c", func := "loop.example/pub-g03335/laws.FnExactAdd8Prefixed", spec := "fnExactAdd8Prefixed", unfollowed := true, recurses := true, apart := false }
def FnExactAdd8PrefixedSaid : Prop := fnExactAdd8PrefixedRow.holds Try.pinned (OpenSpec.ofChange fnExactAdd8PrefixedSpec)

/-- ITS FALSE NEIGHBOUR: 'it returns false'. Refute it at one input. -/
def fnExactAdd8PrefixedWrong : ChangeSpec := { name := "fnExactAdd8Prefixed", fn := fun _ => fun
  | [d] => { results := [.lit (.bool false)], args := [d] }
  | _ => none }
def FnExactAdd8PrefixedWrongFalsely : Prop := fnExactAdd8PrefixedRow.holds Try.pinned (OpenSpec.ofChange fnExactAdd8PrefixedWrong)

/-- 'laws.FnAgain16Prefixed': WHATEVER THE INPUT: true; the input reads as it did. -/
def fnAgain16PrefixedSpec : ChangeSpec := { name := "fnAgain16Prefixed", fn := fun _ => fun
  | [d] => { results := [.lit (.bool true)], args := [d] }
  | _ => none }
def fnAgain16PrefixedRow : OpenClaim := { program := "ytmhinadofihkjaa", sum := "d87055096ebf53b28926029fd87f28f5438e1d04e997c92d1b1dfc0b45c9b87c", func := "loop.example/pub-g03335/laws.FnAgain16Prefixed", spec := "fnAgain16Prefixed", unfollowed := true, recurses := true, apart := false }
def FnAgain16PrefixedSaid : Prop := fnAgain16PrefixedRow.holds Try.pinned (OpenSpec.ofChange fnAgain16PrefixedSpec)

/-- ITS FALSE NEIGHBOUR: 'it returns false'. Refute it at one input. -/
def fnAgain16PrefixedWrong : ChangeSpec := { name := "fnAgain16Prefixed", fn := fun _ => fun
  | [d] => { results := [.lit (.bool false)], args := [d] }
  | _ => none }
def FnAgain16PrefixedWrongFalsely : Prop := fnAgain16PrefixedRow.holds Try.pinned (OpenSpec.ofChange fnAgain16PrefixedWrong)

/-- 'laws.FnAgain24Prefixed': WHATEVER THE INPUT: true; the input reads as it did. -/
def fnAgain24PrefixedSpec : ChangeSpec := { name := "fnAgain24Prefixed", fn := fun _ => fun
  | [d] => { results := [.lit (.bool true)], args := [d] }
  | _ => none }
def fnAgain24PrefixedRow : OpenClaim := { program := "ytmhinadofihkjaa", sum := "d87055096ebf53b28926029fd87f28f5438e1d04e997c92d1b1dfc0b45c9b87c", func := "loop.example/pub-g03335/laws.FnAgain24Prefixed", spec := "fnAgain24Prefixed", unfollowed := true, recurses := true, apart := false }
def FnAgain24PrefixedSaid : Prop := fnAgain24PrefixedRow.holds Try.pinned (OpenSpec.ofChange fnAgain24PrefixedSpec)

/-- ITS FALSE NEIGHBOUR: 'it returns false'. Refute it at one input. -/
def fnAgain24PrefixedWrong : ChangeSpec := { name := "fnAgain24Prefixed", fn := fun _ => fun
  | [d] => { results := [.lit (.bool false)], args := [d] }
  | _ => none }
def FnAgain24PrefixedWrongFalsely : Prop := fnAgain24PrefixedRow.holds Try.pinned (OpenSpec.ofChange fnAgain24PrefixedWrong)

/-- 'laws.FnAgain8Prefixed': WHATEVER THE INPUT: true; the input reads as it did. -/
def fnAgain8PrefixedSpec : ChangeSpec := { name := "fnAgain8Prefixed", fn := fun _ => fun
  | [d] => { results := [.lit (.bool true)], args := [d] }
  | _ => none }
def fnAgain8PrefixedRow : OpenClaim := { program := "ytmhinadofihkjaa", sum := "d87055096ebf53b28926029fd87f28f5438e1d04e997c92d1b1dfc0b45c9b87c", func := "loop.example/pub-g03335/laws.FnAgain8Prefixed", spec := "fnAgain8Prefixed", unfollowed := true, recurses := true, apart := false }
def FnAgain8PrefixedSaid : Prop := fnAgain8PrefixedRow.holds Try.pinned (OpenSpec.ofChange fnAgain8PrefixedSpec)

/-- ITS FALSE NEIGHBOUR: 'it returns false'. Refute it at one input. -/
def fnAgain8PrefixedWrong : ChangeSpec := { name := "fnAgain8Prefixed", fn := fun _ => fun
  | [d] => { results := [.lit (.bool false)], args := [d] }
  | _ => none }
def FnAgain8PrefixedWrongFalsely : Prop := fnAgain8PrefixedRow.holds Try.pinned (OpenSpec.ofChange fnAgain8PrefixedWrong)

/-- 'laws.FnExactAddASN1': WHATEVER THE INPUT: true; the input reads as it did. -/
def fnExactAddASN1Spec : ChangeSpec := { name := "fnExactAddASN1", fn := fun _ => fun
  | [d1, d2] => { results := [.lit (.bool true)], args := [d1, d2] }
  | _ => none }
def fnExactAddASN1Row : OpenClaim := { program := "ytmhinadofihkjaa", sum := "d87055096ebf53b28926029fd87f28f5438e1d04e997c92d1b1dfc0b45c9b87c", func := "loop.example/pub-g03335/laws.FnExactAddASN1", spec := "fnExactAddASN1", unfollowed := true, recurses := true, apart := false }
def FnExactAddASN1Said : Prop := fnExactAddASN1Row.holds Try.pinned (OpenSpec.ofChange fnExactAddASN1Spec)

/-- ITS FALSE NEIGHBOUR: 'it returns false'. Refute it at one input. -/
def fnExactAddASN1Wrong : ChangeSpec := { name := "fnExactAddASN1", fn := fun _ => fun
  | [d1, d2] => { results := [.lit (.bool false)], args := [d1, d2] }
  | _ => none }
def FnExactAddASN1WrongFalsely : Prop := fnExactAddASN1Row.holds Try.pinned (OpenSpec.ofChange fnExactAddASN1Wrong)

/-- 'laws.FnExactAddOctets': WHATEVER THE INPUT: true; the input reads as it did. -/
def fnExactAddOctetsSpec : ChangeSpec := { name := "fnExactAddOctets", fn := fun _ => fun
  | [d] => { results := [.lit (.bool true)], args := [d] }
  | _ => none }
def fnExactAddOctetsRow : OpenClaim := { program := "ytmhinadofihkjaa", sum := "d87055096ebf53b28926029fd87f28f5438e1d04e997c92d1b1dfc0b45c9b87c", func := "loop.example/pub-g03335/laws.FnExactAddOctets", spec := "fnExactAddOctets", unfollowed := true, recurses := true, apart := false }
def FnExactAddOctetsSaid : Prop := fnExactAddOctetsRow.holds Try.pinned (OpenSpec.ofChange fnExactAddOctetsSpec)

/-- ITS FALSE NEIGHBOUR: 'it returns false'. Refute it at one input. -/
def fnExactAddOctetsWrong : ChangeSpec := { name := "fnExactAddOctets", fn := fun _ => fun
  | [d] => { results := [.lit (.bool false)], args := [d] }
  | _ => none }
def FnExactAddOctetsWrongFalsely : Prop := fnExactAddOctetsRow.holds Try.pinned (OpenSpec.ofChange fnExactAddOctetsWrong)

/- THE SECOND FORM. 'bulk': how many values and letters a reading holds, each counted each time it is reached (what is shared counts as often as it is met; a slice's spare places count too). A statement '..UptoSaid' is the law's where the arguments, and the package variables that the reading takes, are together of bulk at most 1048576: NARROWER than '..Said'. Prove '..Said' where nothing that the law and all that it calls make is longer than what came in: it says more and counts as full. Else prove '..UptoSaid'. A law counts once. -/
mutual
def uptoBulk {H : Type} : DataW H → Nat
  | .lit (.string bytes) => bytes.length + 1
  | .lit _ => 1
  | .nil => 1
  | .ptr d => uptoBulk d + 1
  | .slice elems spare => uptoBulkAll elems + uptoBulkAll spare + 1
  | .agg parts => uptoBulkAll parts + 1
  | .iface _ d => uptoBulk d + 1
  | .map entries => uptoBulkEntries entries + 1
  | .held _ => 1
def uptoBulkAll {H : Type} : List (DataW H) → Nat
  | [] => 0
  | d :: r => uptoBulk d + uptoBulkAll r
def uptoBulkEntries {H : Type} : List (Lit × DataW H) → Nat
  | [] => 0
  | x :: r => uptoBulkEntry x + uptoBulkEntries r
def uptoBulkEntry {H : Type} : Lit × DataW H → Nat
  | (.string bytes, d) => bytes.length + uptoBulk d + 1
  | (_, d) => uptoBulk d + 1
 end
def uptoSmall : (H : Type) → List (DataW H) → Bool := fun _ ds => decide (uptoBulkAll ds ≤ 1048576)
def OpenSpec.upto (s : _root_.Go.ChangeSpec) : _root_.Go.OpenSpec := { _root_.Go.OpenSpec.ofChange s with cond := some uptoSmall }

/-- 'laws.FnExactAddUint16', WHERE WHAT IT READS IS OF BULK AT MOST 1048576: true; the input reads as it did. -/
def fnExactAddUint16UptoRow : OpenClaim := { program := "ytmhinadofihkjaa", sum := "d87055096ebf53b28926029fd87f28f5438e1d04e997c92d1b1dfc0b45c9b87c", func := "loop.example/pub-g03335/laws.FnExactAddUint16", spec := "fnExactAddUint16", apart := false, narrowed := true }
def FnExactAddUint16UptoSaid : Prop := fnExactAddUint16UptoRow.holds Try.pinned (OpenSpec.upto fnExactAddUint16Spec)

/-- 'laws.FnExactAddUint32', WHERE WHAT IT READS IS OF BULK AT MOST 1048576: true; the input reads as it did. -/
def fnExactAddUint32UptoRow : OpenClaim := { program := "ytmhinadofihkjaa", sum := "d87055096ebf53b28926029fd87f28f5438e1d04e997c92d1b1dfc0b45c9b87c", func := "loop.example/pub-g03335/laws.FnExactAddUint32", spec := "fnExactAddUint32", apart := false, narrowed := true }
def FnExactAddUint32UptoSaid : Prop := fnExactAddUint32UptoRow.holds Try.pinned (OpenSpec.upto fnExactAddUint32Spec)

/-- 'laws.FnExactAddUint64', WHERE WHAT IT READS IS OF BULK AT MOST 1048576: true; the input reads as it did. -/
def fnExactAddUint64UptoRow : OpenClaim := { program := "ytmhinadofihkjaa", sum := "d87055096ebf53b28926029fd87f28f5438e1d04e997c92d1b1dfc0b45c9b87c", func := "loop.example/pub-g03335/laws.FnExactAddUint64", spec := "fnExactAddUint64", apart := false, narrowed := true }
def FnExactAddUint64UptoSaid : Prop := fnExactAddUint64UptoRow.holds Try.pinned (OpenSpec.upto fnExactAddUint64Spec)

/-- 'laws.FnBackUint16', WHERE WHAT IT READS IS OF BULK AT MOST 1048576: true; the input reads as it did. -/
def fnBackUint16UptoRow : OpenClaim := { program := "ytmhinadofihkjaa", sum := "d87055096ebf53b28926029fd87f28f5438e1d04e997c92d1b1dfc0b45c9b87c", func := "loop.example/pub-g03335/laws.FnBackUint16", spec := "fnBackUint16", apart := false, narrowed := true }
def FnBackUint16UptoSaid : Prop := fnBackUint16UptoRow.holds Try.pinned (OpenSpec.upto fnBackUint16Spec)

/-- 'laws.FnBackUint32', WHERE WHAT IT READS IS OF BULK AT MOST 1048576: true; the input reads as it did. -/
def fnBackUint32UptoRow : OpenClaim := { program := "ytmhinadofihkjaa", sum := "d87055096ebf53b28926029fd87f28f5438e1d04e997c92d1b1dfc0b45c9b87c", func := "loop.example/pub-g03335/laws.FnBackUint32", spec := "fnBackUint32", apart := false, narrowed := true }
def FnBackUint32UptoSaid : Prop := fnBackUint32UptoRow.holds Try.pinned (OpenSpec.upto fnBackUint32Spec)

/-- 'laws.FnBackUint64', WHERE WHAT IT READS IS OF BULK AT MOST 1048576: true; the input reads as it did. -/
def fnBackUint64UptoRow : OpenClaim := { program := "ytmhinadofihkjaa", sum := "d87055096ebf53b28926029fd87f28f5438e1d04e997c92d1b1dfc0b45c9b87c", func := "loop.example/pub-g03335/laws.FnBackUint64", spec := "fnBackUint64", apart := false, narrowed := true }
def FnBackUint64UptoSaid : Prop := fnBackUint64UptoRow.holds Try.pinned (OpenSpec.upto fnBackUint64Spec)

/-- 'laws.FnExactAdd24Prefixed', WHERE WHAT IT READS IS OF BULK AT MOST 1048576: true; the input reads as it did. -/
def fnExactAdd24PrefixedUptoRow : OpenClaim := { program := "ytmhinadofihkjaa", sum := "d87055096ebf53b28926029fd87f28f5438e1d04e997c92d1b1dfc0b45c9b87c", func := "loop.example/pub-g03335/laws.FnExactAdd24Prefixed", spec := "fnExactAdd24Prefixed", unfollowed := true, recurses := true, apart := false, narrowed := true }
def FnExactAdd24PrefixedUptoSaid : Prop := fnExactAdd24PrefixedUptoRow.holds Try.pinned (OpenSpec.upto fnExactAdd24PrefixedSpec)

/-- 'laws.FnExactAdd8Prefixed', WHERE WHAT IT READS IS OF BULK AT MOST 1048576: true; the input reads as it did. -/
def fnExactAdd8PrefixedUptoRow : OpenClaim := { program := "ytmhinadofihkjaa", sum := "d87055096ebf53b28926029fd87f28f5438e1d04e997c92d1b1dfc0b45c9b87c", func := "loop.example/pub-g03335/laws.FnExactAdd8Prefixed", spec := "fnExactAdd8Prefixed", unfollowed := true, recurses := true, apart := false, narrowed := true }
def FnExactAdd8PrefixedUptoSaid : Prop := fnExactAdd8PrefixedUptoRow.holds Try.pinned (OpenSpec.upto fnExactAdd8PrefixedSpec)

/-- 'laws.FnAgain16Prefixed', WHERE WHAT IT READS IS OF BULK AT MOST 1048576: true; the input reads as it did. -/
def fnAgain16PrefixedUptoRow : OpenClaim := { program := "ytmhinadofihkjaa", sum := "d87055096ebf53b28926029fd87f28f5438e1d04e997c92d1b1dfc0b45c9b87c", func := "loop.example/pub-g03335/laws.FnAgain16Prefixed", spec := "fnAgain16Prefixed", unfollowed := true, recurses := true, apart := false, narrowed := true }
def FnAgain16PrefixedUptoSaid : Prop := fnAgain16PrefixedUptoRow.holds Try.pinned (OpenSpec.upto fnAgain16PrefixedSpec)

/-- 'laws.FnAgain24Prefixed', WHERE WHAT IT READS IS OF BULK AT MOST 1048576: true; the input reads as it did. -/
def fnAgain24PrefixedUptoRow : OpenClaim := { program := "ytmhinadofihkjaa", sum := "d87055096ebf53b28926029fd87f28f5438e1d04e997c92d1b1dfc0b45c9b87c", func := "loop.example/pub-g03335/laws.FnAgain24Prefixed", spec := "fnAgain24Prefixed", unfollowed := true, recurses := true, apart := false, narrowed := true }
def FnAgain24PrefixedUptoSaid : Prop := fnAgain24PrefixedUptoRow.holds Try.pinned (OpenSpec.upto fnAgain24PrefixedSpec)

/-- 'laws.FnAgain8Prefixed', WHERE WHAT IT READS IS OF BULK AT MOST 1048576: true; the input reads as it did. -/
def fnAgain8PrefixedUptoRow : OpenClaim := { program := "ytmhinadofihkjaa", sum := "d87055096ebf53b28926029fd87f28f5438e1d04e997c92d1b1dfc0b45c9b87c", func := "loop.example/pub-g03335/laws.FnAgain8Prefixed", spec := "fnAgain8Prefixed", unfollowed := true, recurses := true, apart := false, narrowed := true }
def FnAgain8PrefixedUptoSaid : Prop := fnAgain8PrefixedUptoRow.holds Try.pinned (OpenSpec.upto fnAgain8PrefixedSpec)

/-- 'laws.FnExactAddASN1', WHERE WHAT IT READS IS OF BULK AT MOST 1048576: true; the input reads as it did. -/
def fnExactAddASN1UptoRow : OpenClaim := { program := "ytmhinadofihkjaa", sum := "d87055096ebf53b28926029fd87f28f5438e1d04e997c92d1b1dfc0b45c9b87c", func := "loop.example/pub-g03335/laws.FnExactAddASN1", spec := "fnExactAddASN1", unfollowed := true, recurses := true, apart := false, narrowed := true }
def FnExactAddASN1UptoSaid : Prop := fnExactAddASN1UptoRow.holds Try.pinned (OpenSpec.upto fnExactAddASN1Spec)

/-- 'laws.FnExactAddOctets', WHERE WHAT IT READS IS OF BULK AT MOST 1048576: true; the input reads as it did. -/
def fnExactAddOctetsUptoRow : OpenClaim := { program := "ytmhinadofihkjaa", sum := "d87055096ebf53b28926029fd87f28f5438e1d04e997c92d1b1dfc0b45c9b87c", func := "loop.example/pub-g03335/laws.FnExactAddOctets", spec := "fnExactAddOctets", unfollowed := true, recurses := true, apart := false, narrowed := true }
def FnExactAddOctetsUptoSaid : Prop := fnExactAddOctetsUptoRow.holds Try.pinned (OpenSpec.upto fnExactAddOctetsSpec)

end Rows
end Go.Proofs.Ytmhinadofihkjaa
