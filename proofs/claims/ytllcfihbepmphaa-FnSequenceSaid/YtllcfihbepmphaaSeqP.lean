/- Plain facts for FnSequence: the sequences of packets that the pushdown automaton takes are the messages. -/
import Derived.Test.YtllcfihbepmphaaV
set_option linter.unusedVariables false
set_option linter.unusedSimpArgs false
namespace Go.Proofs.Ytllcfihbepmphaa.V
open Go.RowKit

/-- Where the automaton stands: ahead of the literal data, or behind it; how many signatures are wanted. -/
inductive Ph where
  | ahead (k : Nat)
  | behind (k : Nat)
deriving DecidableEq
def Ph.next : Ph → Int → Option Ph
  | .ahead k, x => if x = 0 then some (.behind k) else if x = 1 then some (.ahead k) else if x = 2 then some (.ahead (k + 1)) else none
  | .behind 0, _ => none
  | .behind (k + 1), x => if x = 1 then some (.behind k) else none
def Ph.run : Ph → List Int → Option Ph
  | p, [] => some p
  | p, x :: l => match p.next x with
    | none => none
    | some q => q.run l
/-- l is so many signatures. -/
def sigs : Nat → List Int → Bool
  | 0, l => l.isEmpty
  | _ + 1, [] => false
  | k + 1, x :: l => x == 1 && sigs k l
/-- l is a message, so many of whose signatures are open. -/
def isMsg : Nat → List Int → Bool
  | _, [] => false
  | k, x :: l => if x = 0 then sigs k l else if x = 1 then isMsg k l else if x = 2 then isMsg (k + 1) l else false
theorem run_sigs (k : Nat) (l : List Int) : sigs k l = decide (Ph.run (.behind k) l = some (.behind 0)) := by
  induction l generalizing k with
  | nil => cases k <;> simp [sigs, Ph.run]
  | cons x l ih =>
    cases k with
    | zero => simp [sigs, Ph.run, Ph.next]
    | succ k =>
      by_cases h : x = 1
      · subst h; simp [sigs, Ph.run, Ph.next, ih]
      · simp [sigs, Ph.run, Ph.next, h]
theorem run_msg (k : Nat) (l : List Int) : isMsg k l = decide (Ph.run (.ahead k) l = some (.behind 0)) := by
  induction l generalizing k with
  | nil => simp [isMsg, Ph.run]
  | cons x l ih =>
    by_cases h0 : x = 0
    · subst h0; simp [isMsg, Ph.run, Ph.next, run_sigs]
    · by_cases h1 : x = 1
      · subst h1; simp [isMsg, Ph.run, Ph.next, ih]
      · by_cases h2 : x = 2
        · subst h2; simp [isMsg, Ph.run, Ph.next, ih]
        · simp [isMsg, Ph.run, Ph.next, h0, h1, h2]
end Go.Proofs.Ytllcfihbepmphaa.V
