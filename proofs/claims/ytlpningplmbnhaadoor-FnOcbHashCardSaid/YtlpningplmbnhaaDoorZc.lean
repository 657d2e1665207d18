/- Great zero values, where the loader gives none (a small seat: LoadGo2); in a seat of LoadGo3 take XZc0's text in its place. -/
import Derived.Test.YtlpningplmbnhaaDoorBase
set_option linter.unusedVariables false
namespace Go.Proofs.YtlpningplmbnhaaDoor
open Go.RowKit V
def Tryd.zeroCells63 : Array Value := (List.replicate 256 (Value.bool false)).toArray
def Tryd.zeroCells62 : Array Value := (Value.slice none 0 0 :: .slice none 0 0 :: .slice none 0 0 :: nums .u8 (List.replicate 256 0)).toArray
set_option maxRecDepth 100000 in
@[go_sem, simp] theorem zv_seen (w : World) : Sem.run Tryd.prog (zeroValue 63) w = .ok (.agg Tryd.zeroCells63) w := by kernel_rfl
set_option maxRecDepth 100000 in
@[go_sem, simp] theorem zv_blk (w : World) : Sem.run Tryd.prog (zeroValue 62) w = .ok (.agg Tryd.zeroCells62) w := by kernel_rfl
@[go_sem, simp] theorem zs_seen : Tryd.zeroCells63.size = 256 := by kernel_rfl
@[go_sem, simp] theorem zs_blk : Tryd.zeroCells62.size = 259 := by kernel_rfl
@[simp] theorem zn_seen : Tryd.zeroCells63 ≠ #[] := fun h => by have := congrArg Array.size h; rw [zs_seen] at this; cases this
@[simp] theorem zn_blk : Tryd.zeroCells62 ≠ #[] := fun h => by have := congrArg Array.size h; rw [zs_blk] at this; cases this
end Go.Proofs.YtlpningplmbnhaaDoor
