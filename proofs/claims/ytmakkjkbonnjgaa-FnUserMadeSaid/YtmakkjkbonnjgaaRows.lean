/-
  No cell of these rows narrows 'for every input' (looked for: loops, veiled, ifaces, maps, wideKeys, modest, calm, conditions, laid).
  DERIVED. THE GIVEN ROWS OF THIS SEAT. 11 by the template 'for every input the law returns true; each argument reads behind the call as it read before'; 0 by the template 'total and deterministic' (their statements: YtmakkjkbonnjgaaTotals.lean).
  GIVEN WITH THE SEED: the statements are not yours to turn. If you find one false, say at which input.
  Laid BY PROGRAM, IN A SANDBOX (cutbox-rows.mjs): the forced cells as the released guide's own fill.sh prints them over the translation 25c9d4a72100b4e3… (all of the seat's roots in one cut). By AI agents, Wed Nov 11 2026. No macro, syntax, notation, axiom, sorry.
-/
import Derived.Test.YtmakkjkbonnjgaaChecked
import GoSem.Claim
import GoSem.ClaimJoined
import GoSem.ClaimMapViews
import Derived.JoinedTies
import Derived.KernelRfl
namespace Go.Proofs.Ytmakkjkbonnjgaa
/- THE CELL 'sum', in the pinned program and in every row, IS THE sha256 OF THE DUMP (.gsa) THAT YtmakkjkbonnjgaaProg.lean LOADS. Nothing in Lean hashes anything: it is a label: what it is worth is what the hold of that sum in a sandbox is worth. -/
noncomputable def Try.pinned : Pinned := { name := "ytmakkjkbonnjgaa", sum := "25c9d4a72100b4e3652e28c34365cebeaee15bd11fd3926e4740d266e102f734", checked := Try.checked }
namespace Rows
def none {H : Type} : Left H := { results := [], args := [] }

/-- 'laws.FnRecipient': WHATEVER THE INPUT: true; the input reads as it did. -/
def fnRecipientSpec : ChangeSpec := { name := "fnRecipient", fn := fun _ => fun
  | [d1, d2] => { results := [.lit (.bool true)], args := [d1, d2] }
  | _ => none }
def fnRecipientRow : OpenClaim := { program := "ytmakkjkbonnjgaa", sum := "25c9d4a72100b4e3652e28c34365cebeaee15bd11fd3926e4740d266e102f734", func := "pub-counterseal/laws.FnRecipient", spec := "fnRecipient", apart := false }
def FnRecipientSaid : Prop := fnRecipientRow.holds Try.pinned (OpenSpec.ofChange fnRecipientSpec)

/-- ITS FALSE NEIGHBOUR: 'it returns false'. Refute it at one input. -/
def fnRecipientWrong : ChangeSpec := { name := "fnRecipient", fn := fun _ => fun
  | [d1, d2] => { results := [.lit (.bool false)], args := [d1, d2] }
  | _ => none }
def FnRecipientWrongFalsely : Prop := fnRecipientRow.holds Try.pinned (OpenSpec.ofChange fnRecipientWrong)

/-- 'laws.FnCrc24Parts': WHATEVER THE INPUT: true; the input reads as it did. -/
def fnCrc24PartsSpec : ChangeSpec := { name := "fnCrc24Parts", fn := fun _ => fun
  | [d1, d2, d3] => { results := [.lit (.bool true)], args := [d1, d2, d3] }
  | _ => none }
def fnCrc24PartsRow : OpenClaim := { program := "ytmakkjkbonnjgaa", sum := "25c9d4a72100b4e3652e28c34365cebeaee15bd11fd3926e4740d266e102f734", func := "pub-counterseal/laws.FnCrc24Parts", spec := "fnCrc24Parts", apart := false }
def FnCrc24PartsSaid : Prop := fnCrc24PartsRow.holds Try.pinned (OpenSpec.ofChange fnCrc24PartsSpec)

/-- ITS FALSE NEIGHBOUR: 'it returns false'. Refute it at one input. -/
def fnCrc24PartsWrong : ChangeSpec := { name := "fnCrc24Parts", fn := fun _ => fun
  | [d1, d2, d3] => { results := [.lit (.bool false)], args := [d1, d2, d3] }
  | _ => none }
def FnCrc24PartsWrongFalsely : Prop := fnCrc24PartsRow.holds Try.pinned (OpenSpec.ofChange fnCrc24PartsWrong)

/-- 'laws.FnForAppend': WHATEVER THE INPUT: true; the input reads as it did. -/
def fnForAppendSpec : ChangeSpec := { name := "fnForAppend", fn := fun _ => fun
  | [d1, d2, d3] => { results := [.lit (.bool true)], args := [d1, d2, d3] }
  | _ => none }
def fnForAppendRow : OpenClaim := { program := "ytmakkjkbonnjgaa", sum := "25c9d4a72100b4e3652e28c34365cebeaee15bd11fd3926e4740d266e102f734", func := "pub-counterseal/laws.FnForAppend", spec := "fnForAppend", apart := false }
def FnForAppendSaid : Prop := fnForAppendRow.holds Try.pinned (OpenSpec.ofChange fnForAppendSpec)

/-- ITS FALSE NEIGHBOUR: 'it returns false'. Refute it at one input. -/
def fnForAppendWrong : ChangeSpec := { name := "fnForAppend", fn := fun _ => fun
  | [d1, d2, d3] => { results := [.lit (.bool false)], args := [d1, d2, d3] }
  | _ => none }
def FnForAppendWrongFalsely : Prop := fnForAppendRow.holds Try.pinned (OpenSpec.ofChange fnForAppendWrong)

/-- 'laws.FnChunkNonce': WHATEVER THE INPUT: true; the input reads as it did. -/
def fnChunkNonceSpec : ChangeSpec := { name := "fnChunkNonce", fn := fun _ => fun
  | [d1, d2] => { results := [.lit (.bool true)], args := [d1, d2] }
  | _ => none }
def fnChunkNonceRow : OpenClaim := { program := "ytmakkjkbonnjgaa", sum := "25c9d4a72100b4e3652e28c34365cebeaee15bd11fd3926e4740d266e102f734", func := "pub-counterseal/laws.FnChunkNonce", spec := "fnChunkNonce", apart := false }
def FnChunkNonceSaid : Prop := fnChunkNonceRow.holds Try.pinned (OpenSpec.ofChange fnChunkNonceSpec)

/-- ITS FALSE NEIGHBOUR: 'it returns false'. Refute it at one input. -/
def fnChunkNonceWrong : ChangeSpec := { name := "fnChunkNonce", fn := fun _ => fun
  | [d1, d2] => { results := [.lit (.bool false)], args := [d1, d2] }
  | _ => none }
def FnChunkNonceWrongFalsely : Prop := fnChunkNonceRow.holds Try.pinned (OpenSpec.ofChange fnChunkNonceWrong)

/-- 'laws.FnDoubleSum': WHATEVER THE INPUT: true; the input reads as it did. -/
def fnDoubleSumSpec : ChangeSpec := { name := "fnDoubleSum", fn := fun _ => fun
  | [d1, d2] => { results := [.lit (.bool true)], args := [d1, d2] }
  | _ => none }
def fnDoubleSumRow : OpenClaim := { program := "ytmakkjkbonnjgaa", sum := "25c9d4a72100b4e3652e28c34365cebeaee15bd11fd3926e4740d266e102f734", func := "pub-counterseal/laws.FnDoubleSum", spec := "fnDoubleSum", apart := false }
def FnDoubleSumSaid : Prop := fnDoubleSumRow.holds Try.pinned (OpenSpec.ofChange fnDoubleSumSpec)

/-- ITS FALSE NEIGHBOUR: 'it returns false'. Refute it at one input. -/
def fnDoubleSumWrong : ChangeSpec := { name := "fnDoubleSum", fn := fun _ => fun
  | [d1, d2] => { results := [.lit (.bool false)], args := [d1, d2] }
  | _ => none }
def FnDoubleSumWrongFalsely : Prop := fnDoubleSumRow.holds Try.pinned (OpenSpec.ofChange fnDoubleSumWrong)

/-- 'laws.FnShiftBits': WHATEVER THE INPUT: true; the input reads as it did. -/
def fnShiftBitsSpec : ChangeSpec := { name := "fnShiftBits", fn := fun _ => fun
  | [d1, d2] => { results := [.lit (.bool true)], args := [d1, d2] }
  | _ => none }
def fnShiftBitsRow : OpenClaim := { program := "ytmakkjkbonnjgaa", sum := "25c9d4a72100b4e3652e28c34365cebeaee15bd11fd3926e4740d266e102f734", func := "pub-counterseal/laws.FnShiftBits", spec := "fnShiftBits", apart := false }
def FnShiftBitsSaid : Prop := fnShiftBitsRow.holds Try.pinned (OpenSpec.ofChange fnShiftBitsSpec)

/-- ITS FALSE NEIGHBOUR: 'it returns false'. Refute it at one input. -/
def fnShiftBitsWrong : ChangeSpec := { name := "fnShiftBits", fn := fun _ => fun
  | [d1, d2] => { results := [.lit (.bool false)], args := [d1, d2] }
  | _ => none }
def FnShiftBitsWrongFalsely : Prop := fnShiftBitsRow.holds Try.pinned (OpenSpec.ofChange fnShiftBitsWrong)

/-- 'laws.FnCountsOutside': WHATEVER THE INPUT: true; the input reads as it did. -/
def fnCountsOutsideSpec : ChangeSpec := { name := "fnCountsOutside", fn := fun _ => fun
  | [d] => { results := [.lit (.bool true)], args := [d] }
  | _ => none }
def fnCountsOutsideRow : OpenClaim := { program := "ytmakkjkbonnjgaa", sum := "25c9d4a72100b4e3652e28c34365cebeaee15bd11fd3926e4740d266e102f734", func := "pub-counterseal/laws.FnCountsOutside", spec := "fnCountsOutside", unfollowed := true, recurses := true, apart := false }
def FnCountsOutsideSaid : Prop := fnCountsOutsideRow.holds Try.pinned (OpenSpec.ofChange fnCountsOutsideSpec)

/-- ITS FALSE NEIGHBOUR: 'it returns false'. Refute it at one input. -/
def fnCountsOutsideWrong : ChangeSpec := { name := "fnCountsOutside", fn := fun _ => fun
  | [d] => { results := [.lit (.bool false)], args := [d] }
  | _ => none }
def FnCountsOutsideWrongFalsely : Prop := fnCountsOutsideRow.holds Try.pinned (OpenSpec.ofChange fnCountsOutsideWrong)

/-- 'laws.FnMemory': WHATEVER THE INPUT: true; the input reads as it did. -/
def fnMemorySpec : ChangeSpec := { name := "fnMemory", fn := fun _ => fun
  | [d1, d2, d3] => { results := [.lit (.bool true)], args := [d1, d2, d3] }
  | _ => none }
def fnMemoryRow : OpenClaim := { program := "ytmakkjkbonnjgaa", sum := "25c9d4a72100b4e3652e28c34365cebeaee15bd11fd3926e4740d266e102f734", func := "pub-counterseal/laws.FnMemory", spec := "fnMemory", unfollowed := true, recurses := true, apart := false }
def FnMemorySaid : Prop := fnMemoryRow.holds Try.pinned (OpenSpec.ofChange fnMemorySpec)

/-- ITS FALSE NEIGHBOUR: 'it returns false'. Refute it at one input. -/
def fnMemoryWrong : ChangeSpec := { name := "fnMemory", fn := fun _ => fun
  | [d1, d2, d3] => { results := [.lit (.bool false)], args := [d1, d2, d3] }
  | _ => none }
def FnMemoryWrongFalsely : Prop := fnMemoryRow.holds Try.pinned (OpenSpec.ofChange fnMemoryWrong)

/-- 'laws.FnSubLength': WHATEVER THE INPUT: true; the input reads as it did. -/
def fnSubLengthSpec : ChangeSpec := { name := "fnSubLength", fn := fun _ => fun
  | [d] => { results := [.lit (.bool true)], args := [d] }
  | _ => none }
def fnSubLengthRow : OpenClaim := { program := "ytmakkjkbonnjgaa", sum := "25c9d4a72100b4e3652e28c34365cebeaee15bd11fd3926e4740d266e102f734", func := "pub-counterseal/laws.FnSubLength", spec := "fnSubLength", apart := false }
def FnSubLengthSaid : Prop := fnSubLengthRow.holds Try.pinned (OpenSpec.ofChange fnSubLengthSpec)

/-- ITS FALSE NEIGHBOUR: 'it returns false'. Refute it at one input. -/
def fnSubLengthWrong : ChangeSpec := { name := "fnSubLength", fn := fun _ => fun
  | [d] => { results := [.lit (.bool false)], args := [d] }
  | _ => none }
def FnSubLengthWrongFalsely : Prop := fnSubLengthRow.holds Try.pinned (OpenSpec.ofChange fnSubLengthWrong)

/-- 'laws.FnChunkSizes': WHATEVER THE INPUT: true; the input reads as it did. -/
def fnChunkSizesSpec : ChangeSpec := { name := "fnChunkSizes", fn := fun _ => fun
  | [d1, d2] => { results := [.lit (.bool true)], args := [d1, d2] }
  | _ => none }
def fnChunkSizesRow : OpenClaim := { program := "ytmakkjkbonnjgaa", sum := "25c9d4a72100b4e3652e28c34365cebeaee15bd11fd3926e4740d266e102f734", func := "pub-counterseal/laws.FnChunkSizes", spec := "fnChunkSizes", apart := false }
def FnChunkSizesSaid : Prop := fnChunkSizesRow.holds Try.pinned (OpenSpec.ofChange fnChunkSizesSpec)

/-- ITS FALSE NEIGHBOUR: 'it returns false'. Refute it at one input. -/
def fnChunkSizesWrong : ChangeSpec := { name := "fnChunkSizes", fn := fun _ => fun
  | [d1, d2] => { results := [.lit (.bool false)], args := [d1, d2] }
  | _ => none }
def FnChunkSizesWrongFalsely : Prop := fnChunkSizesRow.holds Try.pinned (OpenSpec.ofChange fnChunkSizesWrong)

/-- 'laws.FnUserMade': WHATEVER THE INPUT: true; the input reads as it did. -/
def fnUserMadeSpec : ChangeSpec := { name := "fnUserMade", fn := fun _ => fun
  | [d1, d2, d3] => { results := [.lit (.bool true)], args := [d1, d2, d3] }
  | _ => none }
def fnUserMadeRow : OpenClaim := { program := "ytmakkjkbonnjgaa", sum := "25c9d4a72100b4e3652e28c34365cebeaee15bd11fd3926e4740d266e102f734", func := "pub-counterseal/laws.FnUserMade", spec := "fnUserMade", apart := false }
def FnUserMadeSaid : Prop := fnUserMadeRow.holds Try.pinned (OpenSpec.ofChange fnUserMadeSpec)

/-- ITS FALSE NEIGHBOUR: 'it returns false'. Refute it at one input. -/
def fnUserMadeWrong : ChangeSpec := { name := "fnUserMade", fn := fun _ => fun
  | [d1, d2, d3] => { results := [.lit (.bool false)], args := [d1, d2, d3] }
  | _ => none }
def FnUserMadeWrongFalsely : Prop := fnUserMadeRow.holds Try.pinned (OpenSpec.ofChange fnUserMadeWrong)

/- THE SECOND FORM. 'bulk': how many values and letters a reading holds, each counted each time it is reached (what is shared counts as often as it is met; a slice's spare places count too). A statement '..UptoSaid' is the law's where the arguments, and the package variables that the reading takes, are together of bulk at most 1048576: NARROWER than '..Said'. Prove '..Said' where nothing that the law and all that it calls make is longer than what came in: it says more and counts as full. Else prove '..UptoSaid'. A law counts once. -/
mutual
def uptoBulk {H : Type} : DataW H → Nat
  | .lit (.string bytes) => bytes.length + 1
  | .lit _ => 1
  | .nil => 1
  | .ptr d => uptoBulk d + 1
  | .slice elems spare => uptoBulkAll elems + uptoBulkAll spare + 1
  | .agg parts => uptoBulkAll parts + 1
  | .iface _ d => uptoBulk d + 1
  | .map entries => uptoBulkEntries entries + 1
  | .held _ => 1
def uptoBulkAll {H : Type} : List (DataW H) → Nat
  | [] => 0
  | d :: r => uptoBulk d + uptoBulkAll r
def uptoBulkEntries {H : Type} : List (Lit × DataW H) → Nat
  | [] => 0
  | x :: r => uptoBulkEntry x + uptoBulkEntries r
def uptoBulkEntry {H : Type} : Lit × DataW H → Nat
  | (.string bytes, d) => bytes.length + uptoBulk d + 1
  | (_, d) => uptoBulk d + 1
 end
def uptoSmall : (H : Type) → List (DataW H) → Bool := fun _ ds => decide (uptoBulkAll ds ≤ 1048576)
def OpenSpec.upto (s : _root_.Go.ChangeSpec) : _root_.Go.OpenSpec := { _root_.Go.OpenSpec.ofChange s with cond := some uptoSmall }

/-- 'laws.FnRecipient', WHERE WHAT IT READS IS OF BULK AT MOST 1048576: true; the input reads as it did. -/
def fnRecipientUptoRow : OpenClaim := { program := "ytmakkjkbonnjgaa", sum := "25c9d4a72100b4e3652e28c34365cebeaee15bd11fd3926e4740d266e102f734", func := "pub-counterseal/laws.FnRecipient", spec := "fnRecipient", apart := false, narrowed := true }
def FnRecipientUptoSaid : Prop := fnRecipientUptoRow.holds Try.pinned (OpenSpec.upto fnRecipientSpec)

/-- 'laws.FnCrc24Parts', WHERE WHAT IT READS IS OF BULK AT MOST 1048576: true; the input reads as it did. -/
def fnCrc24PartsUptoRow : OpenClaim := { program := "ytmakkjkbonnjgaa", sum := "25c9d4a72100b4e3652e28c34365cebeaee15bd11fd3926e4740d266e102f734", func := "pub-counterseal/laws.FnCrc24Parts", spec := "fnCrc24Parts", apart := false, narrowed := true }
def FnCrc24PartsUptoSaid : Prop := fnCrc24PartsUptoRow.holds Try.pinned (OpenSpec.upto fnCrc24PartsSpec)

/-- 'laws.FnForAppend', WHERE WHAT IT READS IS OF BULK AT MOST 1048576: true; the input reads as it did. -/
def fnForAppendUptoRow : OpenClaim := { program := "ytmakkjkbonnjgaa", sum := "25c9d4a72100b4e3652e28c34365cebeaee15bd11fd3926e4740d266e102f734", func := "pub-counterseal/laws.FnForAppend", spec := "fnForAppend", apart := false, narrowed := true }
def FnForAppendUptoSaid : Prop := fnForAppendUptoRow.holds Try.pinned (OpenSpec.upto fnForAppendSpec)

/-- 'laws.FnChunkNonce', WHERE WHAT IT READS IS OF BULK AT MOST 1048576: true; the input reads as it did. -/
def fnChunkNonceUptoRow : OpenClaim := { program := "ytmakkjkbonnjgaa", sum := "25c9d4a72100b4e3652e28c34365cebeaee15bd11fd3926e4740d266e102f734", func := "pub-counterseal/laws.FnChunkNonce", spec := "fnChunkNonce", apart := false, narrowed := true }
def FnChunkNonceUptoSaid : Prop := fnChunkNonceUptoRow.holds Try.pinned (OpenSpec.upto fnChunkNonceSpec)

/-- 'laws.FnDoubleSum', WHERE WHAT IT READS IS OF BULK AT MOST 1048576: true; the input reads as it did. -/
def fnDoubleSumUptoRow : OpenClaim := { program := "ytmakkjkbonnjgaa", sum := "25c9d4a72100b4e3652e28c34365cebeaee15bd11fd3926e4740d266e102f734", func := "pub-counterseal/laws.FnDoubleSum", spec := "fnDoubleSum", apart := false, narrowed := true }
def FnDoubleSumUptoSaid : Prop := fnDoubleSumUptoRow.holds Try.pinned (OpenSpec.upto fnDoubleSumSpec)

/-- 'laws.FnShiftBits', WHERE WHAT IT READS IS OF BULK AT MOST 1048576: true; the input reads as it did. -/
def fnShiftBitsUptoRow : OpenClaim := { program := "ytmakkjkbonnjgaa", sum := "25c9d4a72100b4e3652e28c34365cebeaee15bd11fd3926e4740d266e102f734", func := "pub-counterseal/laws.FnShiftBits", spec := "fnShiftBits", apart := false, narrowed := true }
def FnShiftBitsUptoSaid : Prop := fnShiftBitsUptoRow.holds Try.pinned (OpenSpec.upto fnShiftBitsSpec)

/-- 'laws.FnCountsOutside', WHERE WHAT IT READS IS OF BULK AT MOST 1048576: true; the input reads as it did. -/
def fnCountsOutsideUptoRow : OpenClaim := { program := "ytmakkjkbonnjgaa", sum := "25c9d4a72100b4e3652e28c34365cebeaee15bd11fd3926e4740d266e102f734", func := "pub-counterseal/laws.FnCountsOutside", spec := "fnCountsOutside", unfollowed := true, recurses := true, apart := false, narrowed := true }
def FnCountsOutsideUptoSaid : Prop := fnCountsOutsideUptoRow.holds Try.pinned (OpenSpec.upto fnCountsOutsideSpec)

/-- 'laws.FnMemory', WHERE WHAT IT READS IS OF BULK AT MOST 1048576: true; the input reads as it did. -/
def fnMemoryUptoRow : OpenClaim := { program := "ytmakkjkbonnjgaa", sum := "25c9d4a72100b4e3652e28c34365cebeaee15bd11fd3926e4740d266e102f734", func := "pub-counterseal/laws.FnMemory", spec := "fnMemory", unfollowed := true, recurses := true, apart := false, narrowed := true }
def FnMemoryUptoSaid : Prop := fnMemoryUptoRow.holds Try.pinned (OpenSpec.upto fnMemorySpec)

/-- 'laws.FnSubLength', WHERE WHAT IT READS IS OF BULK AT MOST 1048576: true; the input reads as it did. -/
def fnSubLengthUptoRow : OpenClaim := { program := "ytmakkjkbonnjgaa", sum := "25c9d4a72100b4e3652e28c34365cebeaee15bd11fd3926e4740d266e102f734", func := "pub-counterseal/laws.FnSubLength", spec := "fnSubLength", apart := false, narrowed := true }
def FnSubLengthUptoSaid : Prop := fnSubLengthUptoRow.holds Try.pinned (OpenSpec.upto fnSubLengthSpec)

/-- 'laws.FnChunkSizes', WHERE WHAT IT READS IS OF BULK AT MOST 1048576: true; the input reads as it did. -/
def fnChunkSizesUptoRow : OpenClaim := { program := "ytmakkjkbonnjgaa", sum := "25c9d4a72100b4e3652e28c34365cebeaee15bd11fd3926e4740d266e102f734", func := "pub-counterseal/laws.FnChunkSizes", spec := "fnChunkSizes", apart := false, narrowed := true }
def FnChunkSizesUptoSaid : Prop := fnChunkSizesUptoRow.holds Try.pinned (OpenSpec.upto fnChunkSizesSpec)

/-- 'laws.FnUserMade', WHERE WHAT IT READS IS OF BULK AT MOST 1048576: true; the input reads as it did. -/
def fnUserMadeUptoRow : OpenClaim := { program := "ytmakkjkbonnjgaa", sum := "25c9d4a72100b4e3652e28c34365cebeaee15bd11fd3926e4740d266e102f734", func := "pub-counterseal/laws.FnUserMade", spec := "fnUserMade", apart := false, narrowed := true }
def FnUserMadeUptoSaid : Prop := fnUserMadeUptoRow.holds Try.pinned (OpenSpec.upto fnUserMadeSpec)

end Rows
end Go.Proofs.Ytmakkjkbonnjgaa
