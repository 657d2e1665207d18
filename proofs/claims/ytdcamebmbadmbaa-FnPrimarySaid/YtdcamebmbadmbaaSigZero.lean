/- The cells of a packet.Signature of which a few fields are given; comparing a slice with nil. -/
import Derived.Test.YtdcamebmbadmbaaProg
import Derived.Test.YtdcamebmbadmbaaV2
import Derived.Laws.Tables
set_option linter.unusedVariables false
set_option linter.unusedSimpArgs false
namespace Go.Proofs.Ytdcamebmbadmbaa
open Go.RowKit V
abbrev ns : Value := .slice none 0 0
abbrev np : Value := .pointer none
abbrev nf : Value := .bool false
abbrev es : Value := .string ⟨#[]⟩
/-- The cells of a signature: its version, its hash, all else zero. -/
def sigCells (v h : Int) : List Value :=
  [.int .i64 v, .int .u8 0, .int .u8 0, .int .u64 h, ns, ns, .int .u8 0, .int .u8 0, np, .int .u64 0, .int .i64 0, np,
   .nilIface, .nilIface, .nilIface, .nilIface, .nilIface, .nilIface, .nilIface, ns, ns, np, np, ns, ns, ns, ns, np, .int .u8 0, ns, np, np, ns, ns, .int .u8 0, .int .u8 0, np, nf, nf, es, es,
   nf, nf, nf, nf, nf, nf, nf, nf, np, es, nf, nf, np, ns]
theorem sigBuilt (v h : Int) : Try.prog.built 95 [(0, .int .i64 v), (3, .int .u64 h)] = some (sigCells v h).toArray := by kernel_rfl
theorem sigBuild (v h : Int) (w : World) : (Instr.build 95 #[(0, .int .i64 v), (3, .int .u64 h)]).run Try.prog w = .ok (.agg (sigCells v h).toArray) w :=
  run_build w _ _ _ (sigBuilt v h)
/-- A composite literal whose cells are told. -/
theorem wpList_built {P : Program} {ops : Array Oper} {rest : List Oper} {o : Oper} {a : Act} {w : World} {Q : Exit → Act → World → Prop} (hg : o.guard = none) (t : TypeId) (parts : Array (Nat × Operand)) (ho : o.op = .build t parts)
    (cells : Array Value) (hc : P.built t (parts.map fun (i, x) => (i, a.eval x)).toList = some cells)
    (h : wpList P ops Q rest (a.put o.dst (.agg cells)) w) : wpList P ops Q (o :: rest) a w :=
  wpList_build hg t parts ho (by rw [hc]; rfl) (by rw [hc]; exact h)
theorem nilEq_none (n c : Nat) (w : World) : (binOp .eql 22 (.slice none n c) (.slice none 0 0)).run Try.prog w = .ok (.bool true) w := by kernel_rfl
theorem nilEq_some (a : Addr) (n c : Nat) (w : World) : (binOp .eql 22 (.slice (some a) n c) (.slice none 0 0)).run Try.prog w = .ok (.bool false) w := by kernel_rfl
end Go.Proofs.Ytdcamebmbadmbaa
