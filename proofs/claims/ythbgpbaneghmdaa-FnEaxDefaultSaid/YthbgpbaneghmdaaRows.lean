/-
  No cell of these rows narrows 'for every input' (looked for: loops, veiled, ifaces, maps, wideKeys, modest, calm, conditions, laid).
  DERIVED. THE GIVEN ROWS OF THIS SEAT. 4 by the template 'for every input the law returns true; each argument reads behind the call as it read before'; 0 by the template 'total and deterministic' (their statements: YthbgpbaneghmdaaTotals.lean).
  GIVEN WITH THE SEED: the statements are not yours to turn. If you find one false, say at which input.
  Laid BY PROGRAM, IN A SANDBOX (cutbox-rows.mjs): the forced cells as the released guide's own fill.sh prints them over the translation 4a1364d1f87393a0… (all of the seat's roots in one cut). By AI agents, Wed Nov 11 2026. No macro, syntax, notation, axiom, sorry.
-/
import Derived.Test.YthbgpbaneghmdaaChecked
import GoSem.Claim
import GoSem.ClaimJoined
import GoSem.ClaimMapViews
import Derived.JoinedTies
import Derived.KernelRfl
namespace Go.Proofs.Ythbgpbaneghmdaa
/- THE CELL 'sum', in the pinned program and in every row, IS THE sha256 OF THE DUMP (.gsa) THAT YthbgpbaneghmdaaProg.lean LOADS. Nothing in Lean hashes anything: it is a label: what it is worth is what the hold of that sum in a sandbox is worth. -/
noncomputable def Try.pinned : Pinned := { name := "ythbgpbaneghmdaa", sum := "4a1364d1f87393a0d392f9d1ba0b263e5bf56bb90124995e1da3119bd3ae70f3", checked := Try.checked }
namespace Rows
def none {H : Type} : Left H := { results := [], args := [] }

/-- 'laws.FnEaxOmac': WHATEVER THE INPUT: true; the input reads as it did. -/
def fnEaxOmacSpec : ChangeSpec := { name := "fnEaxOmac", fn := fun _ => fun
  | [d1, d2, d3] => { results := [.lit (.bool true)], args := [d1, d2, d3] }
  | _ => none }
def fnEaxOmacRow : OpenClaim := { program := "ythbgpbaneghmdaa", sum := "4a1364d1f87393a0d392f9d1ba0b263e5bf56bb90124995e1da3119bd3ae70f3", func := "pub-counterseal/laws.FnEaxOmac", spec := "fnEaxOmac", unfollowed := true, recurses := true, apart := false }
def FnEaxOmacSaid : Prop := fnEaxOmacRow.holds Try.pinned (OpenSpec.ofChange fnEaxOmacSpec)

/-- ITS FALSE NEIGHBOUR: 'it returns false'. Refute it at one input. -/
def fnEaxOmacWrong : ChangeSpec := { name := "fnEaxOmac", fn := fun _ => fun
  | [d1, d2, d3] => { results := [.lit (.bool false)], args := [d1, d2, d3] }
  | _ => none }
def FnEaxOmacWrongFalsely : Prop := fnEaxOmacRow.holds Try.pinned (OpenSpec.ofChange fnEaxOmacWrong)

/-- 'laws.FnEaxDefault': WHATEVER THE INPUT: true; the input reads as it did. -/
def fnEaxDefaultSpec : ChangeSpec := { name := "fnEaxDefault", fn := fun _ => fun
  | [d1, d2] => { results := [.lit (.bool true)], args := [d1, d2] }
  | _ => none }
def fnEaxDefaultRow : OpenClaim := { program := "ythbgpbaneghmdaa", sum := "4a1364d1f87393a0d392f9d1ba0b263e5bf56bb90124995e1da3119bd3ae70f3", func := "pub-counterseal/laws.FnEaxDefault", spec := "fnEaxDefault", unfollowed := true, recurses := true, apart := false }
def FnEaxDefaultSaid : Prop := fnEaxDefaultRow.holds Try.pinned (OpenSpec.ofChange fnEaxDefaultSpec)

/-- ITS FALSE NEIGHBOUR: 'it returns false'. Refute it at one input. -/
def fnEaxDefaultWrong : ChangeSpec := { name := "fnEaxDefault", fn := fun _ => fun
  | [d1, d2] => { results := [.lit (.bool false)], args := [d1, d2] }
  | _ => none }
def FnEaxDefaultWrongFalsely : Prop := fnEaxDefaultRow.holds Try.pinned (OpenSpec.ofChange fnEaxDefaultWrong)

/-- 'laws.FnOcbDefault': WHATEVER THE INPUT: true; the input reads as it did. -/
def fnOcbDefaultSpec : ChangeSpec := { name := "fnOcbDefault", fn := fun _ => fun
  | [d1, d2] => { results := [.lit (.bool true)], args := [d1, d2] }
  | _ => none }
def fnOcbDefaultRow : OpenClaim := { program := "ythbgpbaneghmdaa", sum := "4a1364d1f87393a0d392f9d1ba0b263e5bf56bb90124995e1da3119bd3ae70f3", func := "pub-counterseal/laws.FnOcbDefault", spec := "fnOcbDefault", unfollowed := true, recurses := true, apart := false }
def FnOcbDefaultSaid : Prop := fnOcbDefaultRow.holds Try.pinned (OpenSpec.ofChange fnOcbDefaultSpec)

/-- ITS FALSE NEIGHBOUR: 'it returns false'. Refute it at one input. -/
def fnOcbDefaultWrong : ChangeSpec := { name := "fnOcbDefault", fn := fun _ => fun
  | [d1, d2] => { results := [.lit (.bool false)], args := [d1, d2] }
  | _ => none }
def FnOcbDefaultWrongFalsely : Prop := fnOcbDefaultRow.holds Try.pinned (OpenSpec.ofChange fnOcbDefaultWrong)

/-- 'laws.FnOcfbBack': WHATEVER THE INPUT: true; the input reads as it did. -/
def fnOcfbBackSpec : ChangeSpec := { name := "fnOcfbBack", fn := fun _ => fun
  | [d1, d2, d3, d4] => { results := [.lit (.bool true)], args := [d1, d2, d3, d4] }
  | _ => none }
def fnOcfbBackRow : OpenClaim := { program := "ythbgpbaneghmdaa", sum := "4a1364d1f87393a0d392f9d1ba0b263e5bf56bb90124995e1da3119bd3ae70f3", func := "pub-counterseal/laws.FnOcfbBack", spec := "fnOcfbBack", unfollowed := true, recurses := true, apart := false }
def FnOcfbBackSaid : Prop := fnOcfbBackRow.holds Try.pinned (OpenSpec.ofChange fnOcfbBackSpec)

/-- ITS FALSE NEIGHBOUR: 'it returns false'. Refute it at one input. -/
def fnOcfbBackWrong : ChangeSpec := { name := "fnOcfbBack", fn := fun _ => fun
  | [d1, d2, d3, d4] => { results := [.lit (.bool false)], args := [d1, d2, d3, d4] }
  | _ => none }
def FnOcfbBackWrongFalsely : Prop := fnOcfbBackRow.holds Try.pinned (OpenSpec.ofChange fnOcfbBackWrong)

/- THE SECOND FORM. 'bulk': how many values and letters a reading holds, each counted each time it is reached (what is shared counts as often as it is met; a slice's spare places count too). A statement '..UptoSaid' is the law's where the arguments, and the package variables that the reading takes, are together of bulk at most 1048576: NARROWER than '..Said'. Prove '..Said' where nothing that the law and all that it calls make is longer than what came in: it says more and counts as full. Else prove '..UptoSaid'. A law counts once. -/
mutual
def uptoBulk {H : Type} : DataW H → Nat
  | .lit (.string bytes) => bytes.length + 1
  | .lit _ => 1
  | .nil => 1
  | .ptr d => uptoBulk d + 1
  | .slice elems spare => uptoBulkAll elems + uptoBulkAll spare + 1
  | .agg parts => uptoBulkAll parts + 1
  | .iface _ d => uptoBulk d + 1
  | .map entries => uptoBulkEntries entries + 1
  | .held _ => 1
def uptoBulkAll {H : Type} : List (DataW H) → Nat
  | [] => 0
  | d :: r => uptoBulk d + uptoBulkAll r
def uptoBulkEntries {H : Type} : List (Lit × DataW H) → Nat
  | [] => 0
  | x :: r => uptoBulkEntry x + uptoBulkEntries r
def uptoBulkEntry {H : Type} : Lit × DataW H → Nat
  | (.string bytes, d) => bytes.length + uptoBulk d + 1
  | (_, d) => uptoBulk d + 1
 end
def uptoSmall : (H : Type) → List (DataW H) → Bool := fun _ ds => decide (uptoBulkAll ds ≤ 1048576)
def OpenSpec.upto (s : _root_.Go.ChangeSpec) : _root_.Go.OpenSpec := { _root_.Go.OpenSpec.ofChange s with cond := some uptoSmall }

/-- 'laws.FnEaxOmac', WHERE WHAT IT READS IS OF BULK AT MOST 1048576: true; the input reads as it did. -/
def fnEaxOmacUptoRow : OpenClaim := { program := "ythbgpbaneghmdaa", sum := "4a1364d1f87393a0d392f9d1ba0b263e5bf56bb90124995e1da3119bd3ae70f3", func := "pub-counterseal/laws.FnEaxOmac", spec := "fnEaxOmac", unfollowed := true, recurses := true, apart := false, narrowed := true }
def FnEaxOmacUptoSaid : Prop := fnEaxOmacUptoRow.holds Try.pinned (OpenSpec.upto fnEaxOmacSpec)

/-- 'laws.FnEaxDefault', WHERE WHAT IT READS IS OF BULK AT MOST 1048576: true; the input reads as it did. -/
def fnEaxDefaultUptoRow : OpenClaim := { program := "ythbgpbaneghmdaa", sum := "4a1364d1f87393a0d392f9d1ba0b263e5bf56bb90124995e1da3119bd3ae70f3", func := "pub-counterseal/laws.FnEaxDefault", spec := "fnEaxDefault", unfollowed := true, recurses := true, apart := false, narrowed := true }
def FnEaxDefaultUptoSaid : Prop := fnEaxDefaultUptoRow.holds Try.pinned (OpenSpec.upto fnEaxDefaultSpec)

/-- 'laws.FnOcbDefault', WHERE WHAT IT READS IS OF BULK AT MOST 1048576: true; the input reads as it did. -/
def fnOcbDefaultUptoRow : OpenClaim := { program := "ythbgpbaneghmdaa", sum := "4a1364d1f87393a0d392f9d1ba0b263e5bf56bb90124995e1da3119bd3ae70f3", func := "pub-counterseal/laws.FnOcbDefault", spec := "fnOcbDefault", unfollowed := true, recurses := true, apart := false, narrowed := true }
def FnOcbDefaultUptoSaid : Prop := fnOcbDefaultUptoRow.holds Try.pinned (OpenSpec.upto fnOcbDefaultSpec)

/-- 'laws.FnOcfbBack', WHERE WHAT IT READS IS OF BULK AT MOST 1048576: true; the input reads as it did. -/
def fnOcfbBackUptoRow : OpenClaim := { program := "ythbgpbaneghmdaa", sum := "4a1364d1f87393a0d392f9d1ba0b263e5bf56bb90124995e1da3119bd3ae70f3", func := "pub-counterseal/laws.FnOcfbBack", spec := "fnOcfbBack", unfollowed := true, recurses := true, apart := false, narrowed := true }
def FnOcfbBackUptoSaid : Prop := fnOcfbBackUptoRow.holds Try.pinned (OpenSpec.upto fnOcfbBackSpec)

end Rows
end Go.Proofs.Ythbgpbaneghmdaa
