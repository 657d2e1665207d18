/- The dash escaper's Write: words for its proof in pieces. PRINTED BY dwcut.py -/
import Derived.Test.YtphnjfbaioblbaaDoorDq
import Derived.Deep.Cut
import Derived.Deep.DeepCutAuto
import Derived.Deep.CutRange
import Derived.Lib.SlBytesConst
set_option linter.unusedVariables false
set_option linter.unusedSimpArgs false
namespace Go.Proofs.YtphnjfbaioblbaaDoor
open Go.RowKit V
/-- A part of a code, by its path. -/
def codeAt : List Nat → Code → Code
  | [], c => c
  | i :: p, .seq a b => codeAt p (if i = 0 then a else b)
  | i :: p, .cond _ a b => codeAt p (if i = 0 then a else b)
  | _ :: p, .block _ c => codeAt p c
  | _ :: p, .loop c => codeAt p c
  | _ :: p, .scope c => codeAt p c
  | _ :: _, c => c
noncomputable def dwAt (p : List Nat) : Code := codeAt p (Tryd.f40.body.getD .skip)
/-- No panic. -/
def noPanic (Q : Exit → Act → World → Prop) : Exit → Act → World → Prop := fun e a w => match e with | .panic _ => False | e => Q e a w
theorem noPanic_le (K : Act → World → Prop) (Q : Exit → Act → World → Prop) : ∀ e a w, Exit.then K (noPanic Q) e a w → Exit.then K Q e a w := by
  intro e a w h
  cases e <;> first | exact h | exact h.elim
theorem wp_world {P : Program} {code : Code} {Q : Exit → Act → World → Prop} {a : Act} {w : World} (R : World → Prop) (h : R w) (k : ∀ w', R w' → code.wp P Q a w') : code.wp P Q a w := k w h
/-- A constant's bytes, laid and marked. -/
theorem rb_mark (w : World) (x y : Int) (t : TypeId) (fr : Nat × Nat) : Rb (w.alloc (.cells #[.int .u8 x, .int .u8 y] t fr)) (some ⟨w.heap.size, 0, none⟩) [x, y] :=
  ⟨by simp, fun _ => ⟨_, rfl, by simp, fun j hj => by
    rw [add_lit0, World.cell?_alloc_mark]
    match j, hj with
    | 0, _ => rfl
    | 1, _ => rfl⟩⟩
theorem convMark (w : World) (x y : Int) : (convert 25 25 (.slice (some ⟨w.heap.size, 0, none⟩) 2 2)).run Tryd.prog (w.alloc (.cells #[.int .u8 x, .int .u8 y] 5)) = .ok (.slice (some ⟨w.heap.size, 0, none⟩) 2 2) (w.alloc (.cells #[.int .u8 x, .int .u8 y] 5 (2, 3))) :=
  Lib.run_convert_bytes_const w 25 5 #[.int .u8 x, .int .u8 y] 2 2 Tryd.underlying25 Tryd.underlying5
end Go.Proofs.YtphnjfbaioblbaaDoor
