/-
  NARROWER THAN 'FOR EVERY INPUT', by the rows' own cells (each row's printed sentence says how): FnBitOn: laid.
  DERIVED. THE GIVEN ROWS OF THIS SEAT. 1 by the template 'for every input the law returns true; each argument reads behind the call as it read before'; 0 by the template 'total and deterministic' (their statements: YthnebljgnmggaaaDoorTotals.lean).
  GIVEN WITH THE SEED: the statements are not yours to turn. If you find one false, say at which input.
  Laid BY PROGRAM, IN A SANDBOX (cutbox-rows.mjs): the forced cells as the released guide's own fill.sh prints them over the translation 31570c6860200587… (all of the seat's roots in one cut). By AI agents, Wed Nov 11 2026. No macro, syntax, notation, axiom, sorry.
-/
import Derived.Test.YthnebljgnmggaaaDoorChecked
import GoSem.Claim
import GoSem.ClaimJoined
import GoSem.ClaimMapViews
import Derived.JoinedTies
import Derived.KernelRfl
namespace Go.Proofs.YthnebljgnmggaaaDoor
/- THE CELL 'sum', in the pinned program and in every row, IS THE sha256 OF THE DUMP (.gsa) THAT YthnebljgnmggaaaDoorProg.lean LOADS. Nothing in Lean hashes anything: it is a label: what it is worth is what the hold of that sum in a sandbox is worth. -/
noncomputable def Tryd.pinned : Pinned := { name := "ythnebljgnmggaaadoor", sum := "31570c6860200587929a7e1498484279a00ec42368dde1496d644dfc1ca7e0ca", checked := Tryd.checked }
namespace Rows
def none {H : Type} : Left H := { results := [], args := [] }

/- WHAT THE LISTED PACKAGE-LEVEL VARIABLES READ AS WHEN THE CALL BEGINS. Each datum BY PROGRAM (the guide's laid-datum.mjs) off the statement by which the dump's own 'gosem.cut.vars' lays the variable. In a bare row this is a premise. The card (YthnebljgnmggaaaDoorCards.lean) ties it to the program's text. -/
def laid_pub_counterseal_pub_bigall_divRecursiveThreshold {H : Type} : DataW H := .lit (.int .i64 40)
def laid_pub_counterseal_pub_bigall_karatsubaThreshold {H : Type} : DataW H := .lit (.int .i64 40)
def laid_pub_counterseal_pub_bigall_basicSqrThreshold {H : Type} : DataW H := .lit (.int .i64 12)
def laid_pub_counterseal_pub_bigall_karatsubaSqrThreshold {H : Type} : DataW H := .lit (.int .i64 80)

/-- 'laws.FnBitOn': WHATEVER THE INPUT: true; the input reads as it did. -/
def fnBitOnSpec : ChangeSpec := { name := "fnBitOn", fn := fun _ => fun
  | [d1, d2, d3, d4] => { results := [.lit (.bool true)], args := [d1, d2, d3, d4] }
  | _ => none }
def fnBitOnRow : OpenClaim := { program := "ythnebljgnmggaaadoor", sum := "31570c6860200587929a7e1498484279a00ec42368dde1496d644dfc1ca7e0ca", func := "pub-counterseal/laws.FnBitOn", spec := "fnBitOn", inPlace := ["math/bits.Add64", "math/bits.Sub64"], recurses := true, named := ["pub-counterseal/pub/bigall.basicSqrThreshold", "pub-counterseal/pub/bigall.karatsubaSqrThreshold", "pub-counterseal/pub/bigall.karatsubaThreshold", "pub-counterseal/pub/bigall.divRecursiveThreshold"], apart := false, laid := [("pub-counterseal/pub/bigall.divRecursiveThreshold", laid_pub_counterseal_pub_bigall_divRecursiveThreshold), ("pub-counterseal/pub/bigall.karatsubaThreshold", laid_pub_counterseal_pub_bigall_karatsubaThreshold), ("pub-counterseal/pub/bigall.basicSqrThreshold", laid_pub_counterseal_pub_bigall_basicSqrThreshold), ("pub-counterseal/pub/bigall.karatsubaSqrThreshold", laid_pub_counterseal_pub_bigall_karatsubaSqrThreshold)] }
def FnBitOnSaid : Prop := fnBitOnRow.holds Tryd.pinned (OpenSpec.ofChange fnBitOnSpec)

/-- ITS FALSE NEIGHBOUR: 'it returns false'. Refute it at one input. -/
def fnBitOnWrong : ChangeSpec := { name := "fnBitOn", fn := fun _ => fun
  | [d1, d2, d3, d4] => { results := [.lit (.bool false)], args := [d1, d2, d3, d4] }
  | _ => none }
def FnBitOnWrongFalsely : Prop := fnBitOnRow.holds Tryd.pinned (OpenSpec.ofChange fnBitOnWrong)

/- THE SECOND FORM. 'bulk': how many values and letters a reading holds, each counted each time it is reached (what is shared counts as often as it is met; a slice's spare places count too). A statement '..UptoSaid' is the law's where the arguments, and the package variables that the reading takes, are together of bulk at most 1048576: NARROWER than '..Said'. Prove '..Said' where nothing that the law and all that it calls make is longer than what came in: it says more and counts as full. Else prove '..UptoSaid'. A law counts once. -/
mutual
def uptoBulk {H : Type} : DataW H → Nat
  | .lit (.string bytes) => bytes.length + 1
  | .lit _ => 1
  | .nil => 1
  | .ptr d => uptoBulk d + 1
  | .slice elems spare => uptoBulkAll elems + uptoBulkAll spare + 1
  | .agg parts => uptoBulkAll parts + 1
  | .iface _ d => uptoBulk d + 1
  | .map entries => uptoBulkEntries entries + 1
  | .held _ => 1
def uptoBulkAll {H : Type} : List (DataW H) → Nat
  | [] => 0
  | d :: r => uptoBulk d + uptoBulkAll r
def uptoBulkEntries {H : Type} : List (Lit × DataW H) → Nat
  | [] => 0
  | x :: r => uptoBulkEntry x + uptoBulkEntries r
def uptoBulkEntry {H : Type} : Lit × DataW H → Nat
  | (.string bytes, d) => bytes.length + uptoBulk d + 1
  | (_, d) => uptoBulk d + 1
 end
def uptoSmall : (H : Type) → List (DataW H) → Bool := fun _ ds => decide (uptoBulkAll ds ≤ 1048576)
def OpenSpec.upto (s : _root_.Go.ChangeSpec) : _root_.Go.OpenSpec := { _root_.Go.OpenSpec.ofChange s with cond := some uptoSmall }

/-- 'laws.FnBitOn', WHERE WHAT IT READS IS OF BULK AT MOST 1048576: true; the input reads as it did. -/
def fnBitOnUptoRow : OpenClaim := { program := "ythnebljgnmggaaadoor", sum := "31570c6860200587929a7e1498484279a00ec42368dde1496d644dfc1ca7e0ca", func := "pub-counterseal/laws.FnBitOn", spec := "fnBitOn", inPlace := ["math/bits.Add64", "math/bits.Sub64"], recurses := true, named := ["pub-counterseal/pub/bigall.basicSqrThreshold", "pub-counterseal/pub/bigall.karatsubaSqrThreshold", "pub-counterseal/pub/bigall.karatsubaThreshold", "pub-counterseal/pub/bigall.divRecursiveThreshold"], apart := false, laid := [("pub-counterseal/pub/bigall.divRecursiveThreshold", laid_pub_counterseal_pub_bigall_divRecursiveThreshold), ("pub-counterseal/pub/bigall.karatsubaThreshold", laid_pub_counterseal_pub_bigall_karatsubaThreshold), ("pub-counterseal/pub/bigall.basicSqrThreshold", laid_pub_counterseal_pub_bigall_basicSqrThreshold), ("pub-counterseal/pub/bigall.karatsubaSqrThreshold", laid_pub_counterseal_pub_bigall_karatsubaSqrThreshold)], narrowed := true }
def FnBitOnUptoSaid : Prop := fnBitOnUptoRow.holds Tryd.pinned (OpenSpec.upto fnBitOnSpec)

end Rows
end Go.Proofs.YthnebljgnmggaaaDoor
