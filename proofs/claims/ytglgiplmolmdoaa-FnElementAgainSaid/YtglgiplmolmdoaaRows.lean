/-
  No cell of these rows narrows 'for every input' (looked for: loops, veiled, ifaces, maps, wideKeys, modest, calm, conditions, laid).
  DERIVED. THE GIVEN ROWS OF THIS SEAT. 12 by the template 'for every input the law returns true; each argument reads behind the call as it read before'; 0 by the template 'total and deterministic' (their statements: YtglgiplmolmdoaaTotals.lean).
  GIVEN WITH THE SEED: the statements are not yours to turn. If you find one false, say at which input.
  Laid BY PROGRAM, IN A SANDBOX (cutbox-rows.mjs): the forced cells as the released guide's own fill.sh prints them over the translation 70ae3b38f270429c… (all of the seat's roots in one cut). By AI agents, Wed Nov 11 2026. No macro, syntax, notation, axiom, sorry.
-/
import Derived.Test.YtglgiplmolmdoaaChecked
import GoSem.Claim
import GoSem.ClaimJoined
import GoSem.ClaimMapViews
import Derived.JoinedTies
import Derived.KernelRfl
namespace Go.Proofs.Ytglgiplmolmdoaa
/- THE CELL 'sum', in the pinned program and in every row, IS THE sha256 OF THE DUMP (.gsa) THAT YtglgiplmolmdoaaProg.lean LOADS. Nothing in Lean hashes anything: it is a label: what it is worth is what the hold of that sum in a sandbox is worth. -/
noncomputable def Try.pinned : Pinned := { name := "ytglgiplmolmdoaa", sum := "70ae3b38f270429c9d49d3e07a52578f5a1dfb5ed291d6ab7f20c4c4fb75b0a1", checked := Try.checked }
namespace Rows
def none {H : Type} : Left H := { results := [], args := [] }

/-- 'laws.FnExactContextSpecific': WHATEVER THE INPUT: true; the input reads as it did. -/
def fnExactContextSpecificSpec : ChangeSpec := { name := "fnExactContextSpecific", fn := fun _ => fun
  | [d] => { results := [.lit (.bool true)], args := [d] }
  | _ => none }
def fnExactContextSpecificRow : OpenClaim := { program := "ytglgiplmolmdoaa", sum := "70ae3b38f270429c9d49d3e07a52578f5a1dfb5ed291d6ab7f20c4c4fb75b0a1", func := "loop.example/pub-g03335/laws.FnExactContextSpecific", spec := "fnExactContextSpecific", apart := false }
def FnExactContextSpecificSaid : Prop := fnExactContextSpecificRow.holds Try.pinned (OpenSpec.ofChange fnExactContextSpecificSpec)

/-- ITS FALSE NEIGHBOUR: 'it returns false'. Refute it at one input. -/
def fnExactContextSpecificWrong : ChangeSpec := { name := "fnExactContextSpecific", fn := fun _ => fun
  | [d] => { results := [.lit (.bool false)], args := [d] }
  | _ => none }
def FnExactContextSpecificWrongFalsely : Prop := fnExactContextSpecificRow.holds Try.pinned (OpenSpec.ofChange fnExactContextSpecificWrong)

/-- 'laws.FnTags': WHATEVER THE INPUT: true; the input reads as it did. -/
def fnTagsSpec : ChangeSpec := { name := "fnTags", fn := fun _ => fun
  | [d] => { results := [.lit (.bool true)], args := [d] }
  | _ => none }
def fnTagsRow : OpenClaim := { program := "ytglgiplmolmdoaa", sum := "70ae3b38f270429c9d49d3e07a52578f5a1dfb5ed291d6ab7f20c4c4fb75b0a1", func := "loop.example/pub-g03335/laws.FnTags", spec := "fnTags", apart := false }
def FnTagsSaid : Prop := fnTagsRow.holds Try.pinned (OpenSpec.ofChange fnTagsSpec)

/-- ITS FALSE NEIGHBOUR: 'it returns false'. Refute it at one input. -/
def fnTagsWrong : ChangeSpec := { name := "fnTags", fn := fun _ => fun
  | [d] => { results := [.lit (.bool false)], args := [d] }
  | _ => none }
def FnTagsWrongFalsely : Prop := fnTagsRow.holds Try.pinned (OpenSpec.ofChange fnTagsWrong)

/-- 'laws.FnExactSkip': WHATEVER THE INPUT: true; the input reads as it did. -/
def fnExactSkipSpec : ChangeSpec := { name := "fnExactSkip", fn := fun _ => fun
  | [d1, d2] => { results := [.lit (.bool true)], args := [d1, d2] }
  | _ => none }
def fnExactSkipRow : OpenClaim := { program := "ytglgiplmolmdoaa", sum := "70ae3b38f270429c9d49d3e07a52578f5a1dfb5ed291d6ab7f20c4c4fb75b0a1", func := "loop.example/pub-g03335/laws.FnExactSkip", spec := "fnExactSkip", apart := false }
def FnExactSkipSaid : Prop := fnExactSkipRow.holds Try.pinned (OpenSpec.ofChange fnExactSkipSpec)

/-- ITS FALSE NEIGHBOUR: 'it returns false'. Refute it at one input. -/
def fnExactSkipWrong : ChangeSpec := { name := "fnExactSkip", fn := fun _ => fun
  | [d1, d2] => { results := [.lit (.bool false)], args := [d1, d2] }
  | _ => none }
def FnExactSkipWrongFalsely : Prop := fnExactSkipRow.holds Try.pinned (OpenSpec.ofChange fnExactSkipWrong)

/-- 'laws.FnExactReadBytes': WHATEVER THE INPUT: true; the input reads as it did. -/
def fnExactReadBytesSpec : ChangeSpec := { name := "fnExactReadBytes", fn := fun _ => fun
  | [d1, d2] => { results := [.lit (.bool true)], args := [d1, d2] }
  | _ => none }
def fnExactReadBytesRow : OpenClaim := { program := "ytglgiplmolmdoaa", sum := "70ae3b38f270429c9d49d3e07a52578f5a1dfb5ed291d6ab7f20c4c4fb75b0a1", func := "loop.example/pub-g03335/laws.FnExactReadBytes", spec := "fnExactReadBytes", apart := false }
def FnExactReadBytesSaid : Prop := fnExactReadBytesRow.holds Try.pinned (OpenSpec.ofChange fnExactReadBytesSpec)

/-- ITS FALSE NEIGHBOUR: 'it returns false'. Refute it at one input. -/
def fnExactReadBytesWrong : ChangeSpec := { name := "fnExactReadBytes", fn := fun _ => fun
  | [d1, d2] => { results := [.lit (.bool false)], args := [d1, d2] }
  | _ => none }
def FnExactReadBytesWrongFalsely : Prop := fnExactReadBytesRow.holds Try.pinned (OpenSpec.ofChange fnExactReadBytesWrong)

/-- 'laws.FnExactReadUint24': WHATEVER THE INPUT: true; the input reads as it did. -/
def fnExactReadUint24Spec : ChangeSpec := { name := "fnExactReadUint24", fn := fun _ => fun
  | [d] => { results := [.lit (.bool true)], args := [d] }
  | _ => none }
def fnExactReadUint24Row : OpenClaim := { program := "ytglgiplmolmdoaa", sum := "70ae3b38f270429c9d49d3e07a52578f5a1dfb5ed291d6ab7f20c4c4fb75b0a1", func := "loop.example/pub-g03335/laws.FnExactReadUint24", spec := "fnExactReadUint24", apart := false }
def FnExactReadUint24Said : Prop := fnExactReadUint24Row.holds Try.pinned (OpenSpec.ofChange fnExactReadUint24Spec)

/-- ITS FALSE NEIGHBOUR: 'it returns false'. Refute it at one input. -/
def fnExactReadUint24Wrong : ChangeSpec := { name := "fnExactReadUint24", fn := fun _ => fun
  | [d] => { results := [.lit (.bool false)], args := [d] }
  | _ => none }
def FnExactReadUint24WrongFalsely : Prop := fnExactReadUint24Row.holds Try.pinned (OpenSpec.ofChange fnExactReadUint24Wrong)

/-- 'laws.FnExactReadUint48': WHATEVER THE INPUT: true; the input reads as it did. -/
def fnExactReadUint48Spec : ChangeSpec := { name := "fnExactReadUint48", fn := fun _ => fun
  | [d] => { results := [.lit (.bool true)], args := [d] }
  | _ => none }
def fnExactReadUint48Row : OpenClaim := { program := "ytglgiplmolmdoaa", sum := "70ae3b38f270429c9d49d3e07a52578f5a1dfb5ed291d6ab7f20c4c4fb75b0a1", func := "loop.example/pub-g03335/laws.FnExactReadUint48", spec := "fnExactReadUint48", apart := false }
def FnExactReadUint48Said : Prop := fnExactReadUint48Row.holds Try.pinned (OpenSpec.ofChange fnExactReadUint48Spec)

/-- ITS FALSE NEIGHBOUR: 'it returns false'. Refute it at one input. -/
def fnExactReadUint48Wrong : ChangeSpec := { name := "fnExactReadUint48", fn := fun _ => fun
  | [d] => { results := [.lit (.bool false)], args := [d] }
  | _ => none }
def FnExactReadUint48WrongFalsely : Prop := fnExactReadUint48Row.holds Try.pinned (OpenSpec.ofChange fnExactReadUint48Wrong)

/-- 'laws.FnExactReadUint8': WHATEVER THE INPUT: true; the input reads as it did. -/
def fnExactReadUint8Spec : ChangeSpec := { name := "fnExactReadUint8", fn := fun _ => fun
  | [d] => { results := [.lit (.bool true)], args := [d] }
  | _ => none }
def fnExactReadUint8Row : OpenClaim := { program := "ytglgiplmolmdoaa", sum := "70ae3b38f270429c9d49d3e07a52578f5a1dfb5ed291d6ab7f20c4c4fb75b0a1", func := "loop.example/pub-g03335/laws.FnExactReadUint8", spec := "fnExactReadUint8", apart := false }
def FnExactReadUint8Said : Prop := fnExactReadUint8Row.holds Try.pinned (OpenSpec.ofChange fnExactReadUint8Spec)

/-- ITS FALSE NEIGHBOUR: 'it returns false'. Refute it at one input. -/
def fnExactReadUint8Wrong : ChangeSpec := { name := "fnExactReadUint8", fn := fun _ => fun
  | [d] => { results := [.lit (.bool false)], args := [d] }
  | _ => none }
def FnExactReadUint8WrongFalsely : Prop := fnExactReadUint8Row.holds Try.pinned (OpenSpec.ofChange fnExactReadUint8Wrong)

/-- 'laws.FnExactRead24Prefixed': WHATEVER THE INPUT: true; the input reads as it did. -/
def fnExactRead24PrefixedSpec : ChangeSpec := { name := "fnExactRead24Prefixed", fn := fun _ => fun
  | [d] => { results := [.lit (.bool true)], args := [d] }
  | _ => none }
def fnExactRead24PrefixedRow : OpenClaim := { program := "ytglgiplmolmdoaa", sum := "70ae3b38f270429c9d49d3e07a52578f5a1dfb5ed291d6ab7f20c4c4fb75b0a1", func := "loop.example/pub-g03335/laws.FnExactRead24Prefixed", spec := "fnExactRead24Prefixed", apart := false }
def FnExactRead24PrefixedSaid : Prop := fnExactRead24PrefixedRow.holds Try.pinned (OpenSpec.ofChange fnExactRead24PrefixedSpec)

/-- ITS FALSE NEIGHBOUR: 'it returns false'. Refute it at one input. -/
def fnExactRead24PrefixedWrong : ChangeSpec := { name := "fnExactRead24Prefixed", fn := fun _ => fun
  | [d] => { results := [.lit (.bool false)], args := [d] }
  | _ => none }
def FnExactRead24PrefixedWrongFalsely : Prop := fnExactRead24PrefixedRow.holds Try.pinned (OpenSpec.ofChange fnExactRead24PrefixedWrong)

/-- 'laws.FnExactRead8Prefixed': WHATEVER THE INPUT: true; the input reads as it did. -/
def fnExactRead8PrefixedSpec : ChangeSpec := { name := "fnExactRead8Prefixed", fn := fun _ => fun
  | [d] => { results := [.lit (.bool true)], args := [d] }
  | _ => none }
def fnExactRead8PrefixedRow : OpenClaim := { program := "ytglgiplmolmdoaa", sum := "70ae3b38f270429c9d49d3e07a52578f5a1dfb5ed291d6ab7f20c4c4fb75b0a1", func := "loop.example/pub-g03335/laws.FnExactRead8Prefixed", spec := "fnExactRead8Prefixed", apart := false }
def FnExactRead8PrefixedSaid : Prop := fnExactRead8PrefixedRow.holds Try.pinned (OpenSpec.ofChange fnExactRead8PrefixedSpec)

/-- ITS FALSE NEIGHBOUR: 'it returns false'. Refute it at one input. -/
def fnExactRead8PrefixedWrong : ChangeSpec := { name := "fnExactRead8Prefixed", fn := fun _ => fun
  | [d] => { results := [.lit (.bool false)], args := [d] }
  | _ => none }
def FnExactRead8PrefixedWrongFalsely : Prop := fnExactRead8PrefixedRow.holds Try.pinned (OpenSpec.ofChange fnExactRead8PrefixedWrong)

/-- 'laws.FnBytesCopy': WHATEVER THE INPUT: true; the input reads as it did. -/
def fnBytesCopySpec : ChangeSpec := { name := "fnBytesCopy", fn := fun _ => fun
  | [d1, d2] => { results := [.lit (.bool true)], args := [d1, d2] }
  | _ => none }
def fnBytesCopyRow : OpenClaim := { program := "ytglgiplmolmdoaa", sum := "70ae3b38f270429c9d49d3e07a52578f5a1dfb5ed291d6ab7f20c4c4fb75b0a1", func := "loop.example/pub-g03335/laws.FnBytesCopy", spec := "fnBytesCopy", apart := false }
def FnBytesCopySaid : Prop := fnBytesCopyRow.holds Try.pinned (OpenSpec.ofChange fnBytesCopySpec)

/-- ITS FALSE NEIGHBOUR: 'it returns false'. Refute it at one input. -/
def fnBytesCopyWrong : ChangeSpec := { name := "fnBytesCopy", fn := fun _ => fun
  | [d1, d2] => { results := [.lit (.bool false)], args := [d1, d2] }
  | _ => none }
def FnBytesCopyWrongFalsely : Prop := fnBytesCopyRow.holds Try.pinned (OpenSpec.ofChange fnBytesCopyWrong)

/-- 'laws.FnExactReadAnyElement': WHATEVER THE INPUT: true; the input reads as it did. -/
def fnExactReadAnyElementSpec : ChangeSpec := { name := "fnExactReadAnyElement", fn := fun _ => fun
  | [d] => { results := [.lit (.bool true)], args := [d] }
  | _ => none }
def fnExactReadAnyElementRow : OpenClaim := { program := "ytglgiplmolmdoaa", sum := "70ae3b38f270429c9d49d3e07a52578f5a1dfb5ed291d6ab7f20c4c4fb75b0a1", func := "loop.example/pub-g03335/laws.FnExactReadAnyElement", spec := "fnExactReadAnyElement", apart := false }
def FnExactReadAnyElementSaid : Prop := fnExactReadAnyElementRow.holds Try.pinned (OpenSpec.ofChange fnExactReadAnyElementSpec)

/-- ITS FALSE NEIGHBOUR: 'it returns false'. Refute it at one input. -/
def fnExactReadAnyElementWrong : ChangeSpec := { name := "fnExactReadAnyElement", fn := fun _ => fun
  | [d] => { results := [.lit (.bool false)], args := [d] }
  | _ => none }
def FnExactReadAnyElementWrongFalsely : Prop := fnExactReadAnyElementRow.holds Try.pinned (OpenSpec.ofChange fnExactReadAnyElementWrong)

/-- 'laws.FnElementAgain': WHATEVER THE INPUT: true; the input reads as it did. -/
def fnElementAgainSpec : ChangeSpec := { name := "fnElementAgain", fn := fun _ => fun
  | [d] => { results := [.lit (.bool true)], args := [d] }
  | _ => none }
def fnElementAgainRow : OpenClaim := { program := "ytglgiplmolmdoaa", sum := "70ae3b38f270429c9d49d3e07a52578f5a1dfb5ed291d6ab7f20c4c4fb75b0a1", func := "loop.example/pub-g03335/laws.FnElementAgain", spec := "fnElementAgain", apart := false }
def FnElementAgainSaid : Prop := fnElementAgainRow.holds Try.pinned (OpenSpec.ofChange fnElementAgainSpec)

/-- ITS FALSE NEIGHBOUR: 'it returns false'. Refute it at one input. -/
def fnElementAgainWrong : ChangeSpec := { name := "fnElementAgain", fn := fun _ => fun
  | [d] => { results := [.lit (.bool false)], args := [d] }
  | _ => none }
def FnElementAgainWrongFalsely : Prop := fnElementAgainRow.holds Try.pinned (OpenSpec.ofChange fnElementAgainWrong)

/- THE SECOND FORM. 'bulk': how many values and letters a reading holds, each counted each time it is reached (what is shared counts as often as it is met; a slice's spare places count too). A statement '..UptoSaid' is the law's where the arguments, and the package variables that the reading takes, are together of bulk at most 1048576: NARROWER than '..Said'. Prove '..Said' where nothing that the law and all that it calls make is longer than what came in: it says more and counts as full. Else prove '..UptoSaid'. A law counts once. -/
mutual
def uptoBulk {H : Type} : DataW H → Nat
  | .lit (.string bytes) => bytes.length + 1
  | .lit _ => 1
  | .nil => 1
  | .ptr d => uptoBulk d + 1
  | .slice elems spare => uptoBulkAll elems + uptoBulkAll spare + 1
  | .agg parts => uptoBulkAll parts + 1
  | .iface _ d => uptoBulk d + 1
  | .map entries => uptoBulkEntries entries + 1
  | .held _ => 1
def uptoBulkAll {H : Type} : List (DataW H) → Nat
  | [] => 0
  | d :: r => uptoBulk d + uptoBulkAll r
def uptoBulkEntries {H : Type} : List (Lit × DataW H) → Nat
  | [] => 0
  | x :: r => uptoBulkEntry x + uptoBulkEntries r
def uptoBulkEntry {H : Type} : Lit × DataW H → Nat
  | (.string bytes, d) => bytes.length + uptoBulk d + 1
  | (_, d) => uptoBulk d + 1
 end
def uptoSmall : (H : Type) → List (DataW H) → Bool := fun _ ds => decide (uptoBulkAll ds ≤ 1048576)
def OpenSpec.upto (s : _root_.Go.ChangeSpec) : _root_.Go.OpenSpec := { _root_.Go.OpenSpec.ofChange s with cond := some uptoSmall }

/-- 'laws.FnExactContextSpecific', WHERE WHAT IT READS IS OF BULK AT MOST 1048576: true; the input reads as it did. -/
def fnExactContextSpecificUptoRow : OpenClaim := { program := "ytglgiplmolmdoaa", sum := "70ae3b38f270429c9d49d3e07a52578f5a1dfb5ed291d6ab7f20c4c4fb75b0a1", func := "loop.example/pub-g03335/laws.FnExactContextSpecific", spec := "fnExactContextSpecific", apart := false, narrowed := true }
def FnExactContextSpecificUptoSaid : Prop := fnExactContextSpecificUptoRow.holds Try.pinned (OpenSpec.upto fnExactContextSpecificSpec)

/-- 'laws.FnTags', WHERE WHAT IT READS IS OF BULK AT MOST 1048576: true; the input reads as it did. -/
def fnTagsUptoRow : OpenClaim := { program := "ytglgiplmolmdoaa", sum := "70ae3b38f270429c9d49d3e07a52578f5a1dfb5ed291d6ab7f20c4c4fb75b0a1", func := "loop.example/pub-g03335/laws.FnTags", spec := "fnTags", apart := false, narrowed := true }
def FnTagsUptoSaid : Prop := fnTagsUptoRow.holds Try.pinned (OpenSpec.upto fnTagsSpec)

/-- 'laws.FnExactSkip', WHERE WHAT IT READS IS OF BULK AT MOST 1048576: true; the input reads as it did. -/
def fnExactSkipUptoRow : OpenClaim := { program := "ytglgiplmolmdoaa", sum := "70ae3b38f270429c9d49d3e07a52578f5a1dfb5ed291d6ab7f20c4c4fb75b0a1", func := "loop.example/pub-g03335/laws.FnExactSkip", spec := "fnExactSkip", apart := false, narrowed := true }
def FnExactSkipUptoSaid : Prop := fnExactSkipUptoRow.holds Try.pinned (OpenSpec.upto fnExactSkipSpec)

/-- 'laws.FnExactReadBytes', WHERE WHAT IT READS IS OF BULK AT MOST 1048576: true; the input reads as it did. -/
def fnExactReadBytesUptoRow : OpenClaim := { program := "ytglgiplmolmdoaa", sum := "70ae3b38f270429c9d49d3e07a52578f5a1dfb5ed291d6ab7f20c4c4fb75b0a1", func := "loop.example/pub-g03335/laws.FnExactReadBytes", spec := "fnExactReadBytes", apart := false, narrowed := true }
def FnExactReadBytesUptoSaid : Prop := fnExactReadBytesUptoRow.holds Try.pinned (OpenSpec.upto fnExactReadBytesSpec)

/-- 'laws.FnExactReadUint24', WHERE WHAT IT READS IS OF BULK AT MOST 1048576: true; the input reads as it did. -/
def fnExactReadUint24UptoRow : OpenClaim := { program := "ytglgiplmolmdoaa", sum := "70ae3b38f270429c9d49d3e07a52578f5a1dfb5ed291d6ab7f20c4c4fb75b0a1", func := "loop.example/pub-g03335/laws.FnExactReadUint24", spec := "fnExactReadUint24", apart := false, narrowed := true }
def FnExactReadUint24UptoSaid : Prop := fnExactReadUint24UptoRow.holds Try.pinned (OpenSpec.upto fnExactReadUint24Spec)

/-- 'laws.FnExactReadUint48', WHERE WHAT IT READS IS OF BULK AT MOST 1048576: true; the input reads as it did. -/
def fnExactReadUint48UptoRow : OpenClaim := { program := "ytglgiplmolmdoaa", sum := "70ae3b38f270429c9d49d3e07a52578f5a1dfb5ed291d6ab7f20c4c4fb75b0a1", func := "loop.example/pub-g03335/laws.FnExactReadUint48", spec := "fnExactReadUint48", apart := false, narrowed := true }
def FnExactReadUint48UptoSaid : Prop := fnExactReadUint48UptoRow.holds Try.pinned (OpenSpec.upto fnExactReadUint48Spec)

/-- 'laws.FnExactReadUint8', WHERE WHAT IT READS IS OF BULK AT MOST 1048576: true; the input reads as it did. -/
def fnExactReadUint8UptoRow : OpenClaim := { program := "ytglgiplmolmdoaa", sum := "70ae3b38f270429c9d49d3e07a52578f5a1dfb5ed291d6ab7f20c4c4fb75b0a1", func := "loop.example/pub-g03335/laws.FnExactReadUint8", spec := "fnExactReadUint8", apart := false, narrowed := true }
def FnExactReadUint8UptoSaid : Prop := fnExactReadUint8UptoRow.holds Try.pinned (OpenSpec.upto fnExactReadUint8Spec)

/-- 'laws.FnExactRead24Prefixed', WHERE WHAT IT READS IS OF BULK AT MOST 1048576: true; the input reads as it did. -/
def fnExactRead24PrefixedUptoRow : OpenClaim := { program := "ytglgiplmolmdoaa", sum := "70ae3b38f270429c9d49d3e07a52578f5a1dfb5ed291d6ab7f20c4c4fb75b0a1", func := "loop.example/pub-g03335/laws.FnExactRead24Prefixed", spec := "fnExactRead24Prefixed", apart := false, narrowed := true }
def FnExactRead24PrefixedUptoSaid : Prop := fnExactRead24PrefixedUptoRow.holds Try.pinned (OpenSpec.upto fnExactRead24PrefixedSpec)

/-- 'laws.FnExactRead8Prefixed', WHERE WHAT IT READS IS OF BULK AT MOST 1048576: true; the input reads as it did. -/
def fnExactRead8PrefixedUptoRow : OpenClaim := { program := "ytglgiplmolmdoaa", sum := "70ae3b38f270429c9d49d3e07a52578f5a1dfb5ed291d6ab7f20c4c4fb75b0a1", func := "loop.example/pub-g03335/laws.FnExactRead8Prefixed", spec := "fnExactRead8Prefixed", apart := false, narrowed := true }
def FnExactRead8PrefixedUptoSaid : Prop := fnExactRead8PrefixedUptoRow.holds Try.pinned (OpenSpec.upto fnExactRead8PrefixedSpec)

/-- 'laws.FnBytesCopy', WHERE WHAT IT READS IS OF BULK AT MOST 1048576: true; the input reads as it did. -/
def fnBytesCopyUptoRow : OpenClaim := { program := "ytglgiplmolmdoaa", sum := "70ae3b38f270429c9d49d3e07a52578f5a1dfb5ed291d6ab7f20c4c4fb75b0a1", func := "loop.example/pub-g03335/laws.FnBytesCopy", spec := "fnBytesCopy", apart := false, narrowed := true }
def FnBytesCopyUptoSaid : Prop := fnBytesCopyUptoRow.holds Try.pinned (OpenSpec.upto fnBytesCopySpec)

/-- 'laws.FnExactReadAnyElement', WHERE WHAT IT READS IS OF BULK AT MOST 1048576: true; the input reads as it did. -/
def fnExactReadAnyElementUptoRow : OpenClaim := { program := "ytglgiplmolmdoaa", sum := "70ae3b38f270429c9d49d3e07a52578f5a1dfb5ed291d6ab7f20c4c4fb75b0a1", func := "loop.example/pub-g03335/laws.FnExactReadAnyElement", spec := "fnExactReadAnyElement", apart := false, narrowed := true }
def FnExactReadAnyElementUptoSaid : Prop := fnExactReadAnyElementUptoRow.holds Try.pinned (OpenSpec.upto fnExactReadAnyElementSpec)

/-- 'laws.FnElementAgain', WHERE WHAT IT READS IS OF BULK AT MOST 1048576: true; the input reads as it did. -/
def fnElementAgainUptoRow : OpenClaim := { program := "ytglgiplmolmdoaa", sum := "70ae3b38f270429c9d49d3e07a52578f5a1dfb5ed291d6ab7f20c4c4fb75b0a1", func := "loop.example/pub-g03335/laws.FnElementAgain", spec := "fnElementAgain", apart := false, narrowed := true }
def FnElementAgainUptoSaid : Prop := fnElementAgainUptoRow.holds Try.pinned (OpenSpec.upto fnElementAgainSpec)

end Rows
end Go.Proofs.Ytglgiplmolmdoaa
