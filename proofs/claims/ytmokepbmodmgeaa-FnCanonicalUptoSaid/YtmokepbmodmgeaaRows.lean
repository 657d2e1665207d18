/-
  No cell of these rows narrows 'for every input' (looked for: loops, veiled, ifaces, maps, wideKeys, modest, calm, conditions, laid).
  DERIVED. THE GIVEN ROWS OF THIS SEAT. 3 by the template 'for every input the law returns true; each argument reads behind the call as it read before'; 0 by the template 'total and deterministic' (their statements: YtmokepbmodmgeaaTotals.lean).
  GIVEN WITH THE SEED: the statements are not yours to turn. If you find one false, say at which input.
  Laid BY PROGRAM, IN A SANDBOX (cutbox-rows.mjs): the forced cells as the released guide's own fill.sh prints them over the translation 07a05856bb1ef3b0… (all of the seat's roots in one cut). By AI agents, Wed Nov 11 2026. No macro, syntax, notation, axiom, sorry.
-/
import Derived.Test.YtmokepbmodmgeaaChecked
import GoSem.Claim
import GoSem.ClaimJoined
import GoSem.ClaimMapViews
import Derived.JoinedTies
import Derived.KernelRfl
namespace Go.Proofs.Ytmokepbmodmgeaa
/- THE CELL 'sum', in the pinned program and in every row, IS THE sha256 OF THE DUMP (.gsa) THAT YtmokepbmodmgeaaProg.lean LOADS. Nothing in Lean hashes anything: it is a label: what it is worth is what the hold of that sum in a sandbox is worth. -/
noncomputable def Try.pinned : Pinned := { name := "ytmokepbmodmgeaa", sum := "07a05856bb1ef3b0239caa144075b102346cd5d501b95f421542255d277174a2", checked := Try.checked }
namespace Rows
def none {H : Type} : Left H := { results := [], args := [] }

/-- 'laws.FnS2kOnce': WHATEVER THE INPUT: true; the input reads as it did. -/
def fnS2kOnceSpec : ChangeSpec := { name := "fnS2kOnce", fn := fun _ => fun
  | [d1, d2, d3, d4, d5] => { results := [.lit (.bool true)], args := [d1, d2, d3, d4, d5] }
  | _ => none }
def fnS2kOnceRow : OpenClaim := { program := "ytmokepbmodmgeaa", sum := "07a05856bb1ef3b0239caa144075b102346cd5d501b95f421542255d277174a2", func := "pub-counterseal/laws.FnS2kOnce", spec := "fnS2kOnce", unfollowed := true, recurses := true, apart := false }
def FnS2kOnceSaid : Prop := fnS2kOnceRow.holds Try.pinned (OpenSpec.ofChange fnS2kOnceSpec)

/-- ITS FALSE NEIGHBOUR: 'it returns false'. Refute it at one input. -/
def fnS2kOnceWrong : ChangeSpec := { name := "fnS2kOnce", fn := fun _ => fun
  | [d1, d2, d3, d4, d5] => { results := [.lit (.bool false)], args := [d1, d2, d3, d4, d5] }
  | _ => none }
def FnS2kOnceWrongFalsely : Prop := fnS2kOnceRow.holds Try.pinned (OpenSpec.ofChange fnS2kOnceWrong)

/-- 'laws.FnS2kSalted': WHATEVER THE INPUT: true; the input reads as it did. -/
def fnS2kSaltedSpec : ChangeSpec := { name := "fnS2kSalted", fn := fun _ => fun
  | [d1, d2, d3, d4] => { results := [.lit (.bool true)], args := [d1, d2, d3, d4] }
  | _ => none }
def fnS2kSaltedRow : OpenClaim := { program := "ytmokepbmodmgeaa", sum := "07a05856bb1ef3b0239caa144075b102346cd5d501b95f421542255d277174a2", func := "pub-counterseal/laws.FnS2kSalted", spec := "fnS2kSalted", unfollowed := true, recurses := true, apart := false }
def FnS2kSaltedSaid : Prop := fnS2kSaltedRow.holds Try.pinned (OpenSpec.ofChange fnS2kSaltedSpec)

/-- ITS FALSE NEIGHBOUR: 'it returns false'. Refute it at one input. -/
def fnS2kSaltedWrong : ChangeSpec := { name := "fnS2kSalted", fn := fun _ => fun
  | [d1, d2, d3, d4] => { results := [.lit (.bool false)], args := [d1, d2, d3, d4] }
  | _ => none }
def FnS2kSaltedWrongFalsely : Prop := fnS2kSaltedRow.holds Try.pinned (OpenSpec.ofChange fnS2kSaltedWrong)

/-- 'laws.FnCanonical': WHATEVER THE INPUT: true; the input reads as it did. -/
def fnCanonicalSpec : ChangeSpec := { name := "fnCanonical", fn := fun _ => fun
  | [d] => { results := [.lit (.bool true)], args := [d] }
  | _ => none }
def fnCanonicalRow : OpenClaim := { program := "ytmokepbmodmgeaa", sum := "07a05856bb1ef3b0239caa144075b102346cd5d501b95f421542255d277174a2", func := "pub-counterseal/laws.FnCanonical", spec := "fnCanonical", unfollowed := true, recurses := true, apart := false }
def FnCanonicalSaid : Prop := fnCanonicalRow.holds Try.pinned (OpenSpec.ofChange fnCanonicalSpec)

/-- ITS FALSE NEIGHBOUR: 'it returns false'. Refute it at one input. -/
def fnCanonicalWrong : ChangeSpec := { name := "fnCanonical", fn := fun _ => fun
  | [d] => { results := [.lit (.bool false)], args := [d] }
  | _ => none }
def FnCanonicalWrongFalsely : Prop := fnCanonicalRow.holds Try.pinned (OpenSpec.ofChange fnCanonicalWrong)

/- THE SECOND FORM. 'bulk': how many values and letters a reading holds, each counted each time it is reached (what is shared counts as often as it is met; a slice's spare places count too). A statement '..UptoSaid' is the law's where the arguments, and the package variables that the reading takes, are together of bulk at most 1048576: NARROWER than '..Said'. Prove '..Said' where nothing that the law and all that it calls make is longer than what came in: it says more and counts as full. Else prove '..UptoSaid'. A law counts once. -/
mutual
def uptoBulk {H : Type} : DataW H → Nat
  | .lit (.string bytes) => bytes.length + 1
  | .lit _ => 1
  | .nil => 1
  | .ptr d => uptoBulk d + 1
  | .slice elems spare => uptoBulkAll elems + uptoBulkAll spare + 1
  | .agg parts => uptoBulkAll parts + 1
  | .iface _ d => uptoBulk d + 1
  | .map entries => uptoBulkEntries entries + 1
  | .held _ => 1
def uptoBulkAll {H : Type} : List (DataW H) → Nat
  | [] => 0
  | d :: r => uptoBulk d + uptoBulkAll r
def uptoBulkEntries {H : Type} : List (Lit × DataW H) → Nat
  | [] => 0
  | x :: r => uptoBulkEntry x + uptoBulkEntries r
def uptoBulkEntry {H : Type} : Lit × DataW H → Nat
  | (.string bytes, d) => bytes.length + uptoBulk d + 1
  | (_, d) => uptoBulk d + 1
 end
def uptoSmall : (H : Type) → List (DataW H) → Bool := fun _ ds => decide (uptoBulkAll ds ≤ 1048576)
def OpenSpec.upto (s : _root_.Go.ChangeSpec) : _root_.Go.OpenSpec := { _root_.Go.OpenSpec.ofChange s with cond := some uptoSmall }

/-- 'laws.FnS2kOnce', WHERE WHAT IT READS IS OF BULK AT MOST 1048576: true; the input reads as it did. -/
def fnS2kOnceUptoRow : OpenClaim := { program := "ytmokepbmodmgeaa", sum := "07a05856bb1ef3b0239caa144075b102346cd5d501b95f421542255d277174a2", func := "pub-counterseal/laws.FnS2kOnce", spec := "fnS2kOnce", unfollowed := true, recurses := true, apart := false, narrowed := true }
def FnS2kOnceUptoSaid : Prop := fnS2kOnceUptoRow.holds Try.pinned (OpenSpec.upto fnS2kOnceSpec)

/-- 'laws.FnS2kSalted', WHERE WHAT IT READS IS OF BULK AT MOST 1048576: true; the input reads as it did. -/
def fnS2kSaltedUptoRow : OpenClaim := { program := "ytmokepbmodmgeaa", sum := "07a05856bb1ef3b0239caa144075b102346cd5d501b95f421542255d277174a2", func := "pub-counterseal/laws.FnS2kSalted", spec := "fnS2kSalted", unfollowed := true, recurses := true, apart := false, narrowed := true }
def FnS2kSaltedUptoSaid : Prop := fnS2kSaltedUptoRow.holds Try.pinned (OpenSpec.upto fnS2kSaltedSpec)

/-- 'laws.FnCanonical', WHERE WHAT IT READS IS OF BULK AT MOST 1048576: true; the input reads as it did. -/
def fnCanonicalUptoRow : OpenClaim := { program := "ytmokepbmodmgeaa", sum := "07a05856bb1ef3b0239caa144075b102346cd5d501b95f421542255d277174a2", func := "pub-counterseal/laws.FnCanonical", spec := "fnCanonical", unfollowed := true, recurses := true, apart := false, narrowed := true }
def FnCanonicalUptoSaid : Prop := fnCanonicalUptoRow.holds Try.pinned (OpenSpec.upto fnCanonicalSpec)

end Rows
end Go.Proofs.Ytmokepbmodmgeaa
