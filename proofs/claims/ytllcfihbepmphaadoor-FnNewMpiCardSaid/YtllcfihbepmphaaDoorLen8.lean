/- The contract of bits.Len8. -/
import Derived.Test.YtllcfihbepmphaaDoorProg
import Derived.Test.YtllcfihbepmphaaDoorV2
set_option linter.unusedVariables false
set_option linter.unusedSimpArgs false
namespace Go.Proofs.YtllcfihbepmphaaDoor
open Go.RowKit V
def len8 (t : Nat) : Nat := if t = 0 then 0 else if t < 2 then 1 else if t < 4 then 2 else if t < 8 then 3 else if t < 16 then 4 else if t < 32 then 5 else if t < 64 then 6 else if t < 128 then 7 else 8
def tbl8 : ByteArray := ⟨#[0, 1, 2, 2, 3, 3, 3, 3, 4, 4, 4, 4, 4, 4, 4, 4, 5, 5, 5, 5, 5, 5, 5, 5, 5, 5, 5, 5, 5, 5, 5, 5, 6, 6, 6, 6, 6, 6, 6, 6, 6, 6, 6, 6, 6, 6, 6, 6, 6, 6, 6, 6, 6, 6, 6, 6, 6, 6, 6, 6, 6, 6, 6, 6, 7, 7, 7, 7, 7, 7, 7, 7, 7, 7, 7, 7, 7, 7, 7, 7, 7, 7, 7, 7, 7, 7, 7, 7, 7, 7, 7, 7, 7, 7, 7, 7, 7, 7, 7, 7, 7, 7, 7, 7, 7, 7, 7, 7, 7, 7, 7, 7, 7, 7, 7, 7, 7, 7, 7, 7, 7, 7, 7, 7, 7, 7, 7, 7, 8, 8, 8, 8, 8, 8, 8, 8, 8, 8, 8, 8, 8, 8, 8, 8, 8, 8, 8, 8, 8, 8, 8, 8, 8, 8, 8, 8, 8, 8, 8, 8, 8, 8, 8, 8, 8, 8, 8, 8, 8, 8, 8, 8, 8, 8, 8, 8, 8, 8, 8, 8, 8, 8, 8, 8, 8, 8, 8, 8, 8, 8, 8, 8, 8, 8, 8, 8, 8, 8, 8, 8, 8, 8, 8, 8, 8, 8, 8, 8, 8, 8, 8, 8, 8, 8, 8, 8, 8, 8, 8, 8, 8, 8, 8, 8, 8, 8, 8, 8, 8, 8, 8, 8, 8, 8, 8, 8, 8, 8, 8, 8, 8, 8, 8, 8, 8, 8, 8, 8, 8, 8, 8, 8, 8, 8, 8, 8]⟩
set_option maxRecDepth 100000 in
theorem tbl8_size : tbl8.size = 256 := by decide +kernel
set_option maxRecDepth 100000 in
theorem tbl8_ok : ∀ t : Nat, (h : t < 256) → wrap64 (((tbl8[t]'(by rw [tbl8_size]; exact h)).toNat : Nat) : Int) = ((len8 t : Nat) : Int) := by decide +kernel
set_option maxRecDepth 100000 in
set_option maxHeartbeats 2000000 in
theorem len8_any (t : Nat) (w : World) (h : t < 256) : Calls Tryd.prog 56 #[.int .u8 (t : Int)] w fun e w' => e = .returned (.int .i64 (len8 t : Nat)) ∧ w' = w := by
  go_enter Tryd.func56, Tryd.ntmps56
  go_wp2_with fail
  go_ret
  exact ⟨congrArg (fun n : Int => Ending.returned (.int .i64 n)) (tbl8_ok t h), rfl⟩
end Go.Proofs.YtllcfihbepmphaaDoor
