/-
  No cell of these rows narrows 'for every input' (looked for: loops, veiled, ifaces, maps, wideKeys, modest, calm, conditions, laid).
  DERIVED. THE GIVEN ROWS OF THIS SEAT. 6 by the template 'for every input the law returns true; each argument reads behind the call as it read before'; 0 by the template 'total and deterministic' (their statements: YtllcfihbepmphaaTotals.lean).
  GIVEN WITH THE SEED: the statements are not yours to turn. If you find one false, say at which input.
  Laid BY PROGRAM, IN A SANDBOX (cutbox-rows.mjs): the forced cells as the released guide's own fill.sh prints them over the translation 77587c52e7e532a0… (all of the seat's roots in one cut). By AI agents, Wed Nov 11 2026. No macro, syntax, notation, axiom, sorry.
-/
import Derived.Test.YtllcfihbepmphaaChecked
import GoSem.Claim
import GoSem.ClaimJoined
import GoSem.ClaimMapViews
import Derived.JoinedTies
import Derived.KernelRfl
namespace Go.Proofs.Ytllcfihbepmphaa
/- THE CELL 'sum', in the pinned program and in every row, IS THE sha256 OF THE DUMP (.gsa) THAT YtllcfihbepmphaaProg.lean LOADS. Nothing in Lean hashes anything: it is a label: what it is worth is what the hold of that sum in a sandbox is worth. -/
noncomputable def Try.pinned : Pinned := { name := "ytllcfihbepmphaa", sum := "77587c52e7e532a0468eb6afe7e2e15f0afe203438d4e623fbf95b8e77cc3c50", checked := Try.checked }
namespace Rows
def none {H : Type} : Left H := { results := [], args := [] }

/-- 'laws.FnSequence': WHATEVER THE INPUT: true; the input reads as it did. -/
def fnSequenceSpec : ChangeSpec := { name := "fnSequence", fn := fun _ => fun
  | [d] => { results := [.lit (.bool true)], args := [d] }
  | _ => none }
def fnSequenceRow : OpenClaim := { program := "ytllcfihbepmphaa", sum := "77587c52e7e532a0468eb6afe7e2e15f0afe203438d4e623fbf95b8e77cc3c50", func := "pub-counterseal/laws.FnSequence", spec := "fnSequence", unfollowed := true, recurses := true, apart := false }
def FnSequenceSaid : Prop := fnSequenceRow.holds Try.pinned (OpenSpec.ofChange fnSequenceSpec)

/-- ITS FALSE NEIGHBOUR: 'it returns false'. Refute it at one input. -/
def fnSequenceWrong : ChangeSpec := { name := "fnSequence", fn := fun _ => fun
  | [d] => { results := [.lit (.bool false)], args := [d] }
  | _ => none }
def FnSequenceWrongFalsely : Prop := fnSequenceRow.holds Try.pinned (OpenSpec.ofChange fnSequenceWrong)

/-- 'laws.FnPrimary': WHATEVER THE INPUT: true; the input reads as it did. -/
def fnPrimarySpec : ChangeSpec := { name := "fnPrimary", fn := fun _ => fun
  | [d] => { results := [.lit (.bool true)], args := [d] }
  | _ => none }
def fnPrimaryRow : OpenClaim := { program := "ytllcfihbepmphaa", sum := "77587c52e7e532a0468eb6afe7e2e15f0afe203438d4e623fbf95b8e77cc3c50", func := "pub-counterseal/laws.FnPrimary", spec := "fnPrimary", apart := false }
def FnPrimarySaid : Prop := fnPrimaryRow.holds Try.pinned (OpenSpec.ofChange fnPrimarySpec)

/-- ITS FALSE NEIGHBOUR: 'it returns false'. Refute it at one input. -/
def fnPrimaryWrong : ChangeSpec := { name := "fnPrimary", fn := fun _ => fun
  | [d] => { results := [.lit (.bool false)], args := [d] }
  | _ => none }
def FnPrimaryWrongFalsely : Prop := fnPrimaryRow.holds Try.pinned (OpenSpec.ofChange fnPrimaryWrong)

/-- 'laws.FnRevoked': WHATEVER THE INPUT: true; the input reads as it did. -/
def fnRevokedSpec : ChangeSpec := { name := "fnRevoked", fn := fun _ => fun
  | [d1, d2] => { results := [.lit (.bool true)], args := [d1, d2] }
  | _ => none }
def fnRevokedRow : OpenClaim := { program := "ytllcfihbepmphaa", sum := "77587c52e7e532a0468eb6afe7e2e15f0afe203438d4e623fbf95b8e77cc3c50", func := "pub-counterseal/laws.FnRevoked", spec := "fnRevoked", apart := false }
def FnRevokedSaid : Prop := fnRevokedRow.holds Try.pinned (OpenSpec.ofChange fnRevokedSpec)

/-- ITS FALSE NEIGHBOUR: 'it returns false'. Refute it at one input. -/
def fnRevokedWrong : ChangeSpec := { name := "fnRevoked", fn := fun _ => fun
  | [d1, d2] => { results := [.lit (.bool false)], args := [d1, d2] }
  | _ => none }
def FnRevokedWrongFalsely : Prop := fnRevokedRow.holds Try.pinned (OpenSpec.ofChange fnRevokedWrong)

/-- 'laws.FnWriteLength': WHATEVER THE INPUT: true; the input reads as it did. -/
def fnWriteLengthSpec : ChangeSpec := { name := "fnWriteLength", fn := fun _ => fun
  | [d] => { results := [.lit (.bool true)], args := [d] }
  | _ => none }
def fnWriteLengthRow : OpenClaim := { program := "ytllcfihbepmphaa", sum := "77587c52e7e532a0468eb6afe7e2e15f0afe203438d4e623fbf95b8e77cc3c50", func := "pub-counterseal/laws.FnWriteLength", spec := "fnWriteLength", unfollowed := true, recurses := true, apart := false }
def FnWriteLengthSaid : Prop := fnWriteLengthRow.holds Try.pinned (OpenSpec.ofChange fnWriteLengthSpec)

/-- ITS FALSE NEIGHBOUR: 'it returns false'. Refute it at one input. -/
def fnWriteLengthWrong : ChangeSpec := { name := "fnWriteLength", fn := fun _ => fun
  | [d] => { results := [.lit (.bool false)], args := [d] }
  | _ => none }
def FnWriteLengthWrongFalsely : Prop := fnWriteLengthRow.holds Try.pinned (OpenSpec.ofChange fnWriteLengthWrong)

/-- 'laws.FnWriteHead': WHATEVER THE INPUT: true; the input reads as it did. -/
def fnWriteHeadSpec : ChangeSpec := { name := "fnWriteHead", fn := fun _ => fun
  | [d1, d2] => { results := [.lit (.bool true)], args := [d1, d2] }
  | _ => none }
def fnWriteHeadRow : OpenClaim := { program := "ytllcfihbepmphaa", sum := "77587c52e7e532a0468eb6afe7e2e15f0afe203438d4e623fbf95b8e77cc3c50", func := "pub-counterseal/laws.FnWriteHead", spec := "fnWriteHead", unfollowed := true, recurses := true, apart := false }
def FnWriteHeadSaid : Prop := fnWriteHeadRow.holds Try.pinned (OpenSpec.ofChange fnWriteHeadSpec)

/-- ITS FALSE NEIGHBOUR: 'it returns false'. Refute it at one input. -/
def fnWriteHeadWrong : ChangeSpec := { name := "fnWriteHead", fn := fun _ => fun
  | [d1, d2] => { results := [.lit (.bool false)], args := [d1, d2] }
  | _ => none }
def FnWriteHeadWrongFalsely : Prop := fnWriteHeadRow.holds Try.pinned (OpenSpec.ofChange fnWriteHeadWrong)

/-- 'laws.FnWriteOpaque': WHATEVER THE INPUT: true; the input reads as it did. -/
def fnWriteOpaqueSpec : ChangeSpec := { name := "fnWriteOpaque", fn := fun _ => fun
  | [d1, d2] => { results := [.lit (.bool true)], args := [d1, d2] }
  | _ => none }
def fnWriteOpaqueRow : OpenClaim := { program := "ytllcfihbepmphaa", sum := "77587c52e7e532a0468eb6afe7e2e15f0afe203438d4e623fbf95b8e77cc3c50", func := "pub-counterseal/laws.FnWriteOpaque", spec := "fnWriteOpaque", unfollowed := true, recurses := true, apart := false }
def FnWriteOpaqueSaid : Prop := fnWriteOpaqueRow.holds Try.pinned (OpenSpec.ofChange fnWriteOpaqueSpec)

/-- ITS FALSE NEIGHBOUR: 'it returns false'. Refute it at one input. -/
def fnWriteOpaqueWrong : ChangeSpec := { name := "fnWriteOpaque", fn := fun _ => fun
  | [d1, d2] => { results := [.lit (.bool false)], args := [d1, d2] }
  | _ => none }
def FnWriteOpaqueWrongFalsely : Prop := fnWriteOpaqueRow.holds Try.pinned (OpenSpec.ofChange fnWriteOpaqueWrong)

/- THE SECOND FORM. 'bulk': how many values and letters a reading holds, each counted each time it is reached (what is shared counts as often as it is met; a slice's spare places count too). A statement '..UptoSaid' is the law's where the arguments, and the package variables that the reading takes, are together of bulk at most 1048576: NARROWER than '..Said'. Prove '..Said' where nothing that the law and all that it calls make is longer than what came in: it says more and counts as full. Else prove '..UptoSaid'. A law counts once. -/
mutual
def uptoBulk {H : Type} : DataW H → Nat
  | .lit (.string bytes) => bytes.length + 1
  | .lit _ => 1
  | .nil => 1
  | .ptr d => uptoBulk d + 1
  | .slice elems spare => uptoBulkAll elems + uptoBulkAll spare + 1
  | .agg parts => uptoBulkAll parts + 1
  | .iface _ d => uptoBulk d + 1
  | .map entries => uptoBulkEntries entries + 1
  | .held _ => 1
def uptoBulkAll {H : Type} : List (DataW H) → Nat
  | [] => 0
  | d :: r => uptoBulk d + uptoBulkAll r
def uptoBulkEntries {H : Type} : List (Lit × DataW H) → Nat
  | [] => 0
  | x :: r => uptoBulkEntry x + uptoBulkEntries r
def uptoBulkEntry {H : Type} : Lit × DataW H → Nat
  | (.string bytes, d) => bytes.length + uptoBulk d + 1
  | (_, d) => uptoBulk d + 1
 end
def uptoSmall : (H : Type) → List (DataW H) → Bool := fun _ ds => decide (uptoBulkAll ds ≤ 1048576)
def OpenSpec.upto (s : _root_.Go.ChangeSpec) : _root_.Go.OpenSpec := { _root_.Go.OpenSpec.ofChange s with cond := some uptoSmall }

/-- 'laws.FnSequence', WHERE WHAT IT READS IS OF BULK AT MOST 1048576: true; the input reads as it did. -/
def fnSequenceUptoRow : OpenClaim := { program := "ytllcfihbepmphaa", sum := "77587c52e7e532a0468eb6afe7e2e15f0afe203438d4e623fbf95b8e77cc3c50", func := "pub-counterseal/laws.FnSequence", spec := "fnSequence", unfollowed := true, recurses := true, apart := false, narrowed := true }
def FnSequenceUptoSaid : Prop := fnSequenceUptoRow.holds Try.pinned (OpenSpec.upto fnSequenceSpec)

/-- 'laws.FnPrimary', WHERE WHAT IT READS IS OF BULK AT MOST 1048576: true; the input reads as it did. -/
def fnPrimaryUptoRow : OpenClaim := { program := "ytllcfihbepmphaa", sum := "77587c52e7e532a0468eb6afe7e2e15f0afe203438d4e623fbf95b8e77cc3c50", func := "pub-counterseal/laws.FnPrimary", spec := "fnPrimary", apart := false, narrowed := true }
def FnPrimaryUptoSaid : Prop := fnPrimaryUptoRow.holds Try.pinned (OpenSpec.upto fnPrimarySpec)

/-- 'laws.FnRevoked', WHERE WHAT IT READS IS OF BULK AT MOST 1048576: true; the input reads as it did. -/
def fnRevokedUptoRow : OpenClaim := { program := "ytllcfihbepmphaa", sum := "77587c52e7e532a0468eb6afe7e2e15f0afe203438d4e623fbf95b8e77cc3c50", func := "pub-counterseal/laws.FnRevoked", spec := "fnRevoked", apart := false, narrowed := true }
def FnRevokedUptoSaid : Prop := fnRevokedUptoRow.holds Try.pinned (OpenSpec.upto fnRevokedSpec)

/-- 'laws.FnWriteLength', WHERE WHAT IT READS IS OF BULK AT MOST 1048576: true; the input reads as it did. -/
def fnWriteLengthUptoRow : OpenClaim := { program := "ytllcfihbepmphaa", sum := "77587c52e7e532a0468eb6afe7e2e15f0afe203438d4e623fbf95b8e77cc3c50", func := "pub-counterseal/laws.FnWriteLength", spec := "fnWriteLength", unfollowed := true, recurses := true, apart := false, narrowed := true }
def FnWriteLengthUptoSaid : Prop := fnWriteLengthUptoRow.holds Try.pinned (OpenSpec.upto fnWriteLengthSpec)

/-- 'laws.FnWriteHead', WHERE WHAT IT READS IS OF BULK AT MOST 1048576: true; the input reads as it did. -/
def fnWriteHeadUptoRow : OpenClaim := { program := "ytllcfihbepmphaa", sum := "77587c52e7e532a0468eb6afe7e2e15f0afe203438d4e623fbf95b8e77cc3c50", func := "pub-counterseal/laws.FnWriteHead", spec := "fnWriteHead", unfollowed := true, recurses := true, apart := false, narrowed := true }
def FnWriteHeadUptoSaid : Prop := fnWriteHeadUptoRow.holds Try.pinned (OpenSpec.upto fnWriteHeadSpec)

/-- 'laws.FnWriteOpaque', WHERE WHAT IT READS IS OF BULK AT MOST 1048576: true; the input reads as it did. -/
def fnWriteOpaqueUptoRow : OpenClaim := { program := "ytllcfihbepmphaa", sum := "77587c52e7e532a0468eb6afe7e2e15f0afe203438d4e623fbf95b8e77cc3c50", func := "pub-counterseal/laws.FnWriteOpaque", spec := "fnWriteOpaque", unfollowed := true, recurses := true, apart := false, narrowed := true }
def FnWriteOpaqueUptoSaid : Prop := fnWriteOpaqueUptoRow.holds Try.pinned (OpenSpec.upto fnWriteOpaqueSpec)

end Rows
end Go.Proofs.Ytllcfihbepmphaa
