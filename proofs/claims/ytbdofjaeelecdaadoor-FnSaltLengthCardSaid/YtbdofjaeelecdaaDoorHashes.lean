/- The contracts of the table of hashes: spec.HashOf, spec.SaltSize, packet.SaltLengthForHash, laws.signHash. -/
import Derived.Test.YtbdofjaeelecdaaDoorProg
import Derived.Test.YtbdofjaeelecdaaDoorV2
set_option linter.unusedVariables false
set_option linter.unusedSimpArgs false
namespace Go.Proofs.YtbdofjaeelecdaaDoor
open Go.RowKit V
/-- Go's number of a hash, from the standard's. -/
def goHash (id : Int) : Int := if id = 8 then 5 else if id = 9 then 6 else if id = 10 then 7 else if id = 11 then 4 else if id = 12 then 11 else 13
def saltLen (id : Int) : Int := if id = 8 ∨ id = 11 ∨ id = 12 then 16 else if id = 9 then 24 else 32
def IsId (id : Int) : Prop := id = 8 ∨ id = 9 ∨ id = 10 ∨ id = 11 ∨ id = 12 ∨ id = 14
set_option maxHeartbeats 1000000 in
theorem saltSize_any (id : Int) (w : World) (h : IsId id) : Calls Tryd.prog 6 #[.int .i64 id] w fun e w' => e = .returned (.int .i64 (saltLen id)) ∧ w' = w := by
  rcases h with rfl | rfl | rfl | rfl | rfl | rfl
  all_goals
    go_enter Tryd.func6, Tryd.ntmps6
    go_wp2
    go_ret
    exact ⟨rfl, rfl⟩
set_option maxHeartbeats 1000000 in
theorem saltLength_any (id : Int) (w : World) (h : IsId id) : Calls Tryd.prog 7 #[.int .u64 (goHash id)] w fun e w' => e = .returned (.tuple #[.int .i64 (saltLen id), .nilIface]) ∧ w' = w := by
  rcases h with rfl | rfl | rfl | rfl | rfl | rfl
  all_goals
    simp only [goHash]
    go_enter Tryd.func7, Tryd.ntmps7
    go_wp2
    go_ret2
    exact ⟨rfl, rfl⟩
end Go.Proofs.YtbdofjaeelecdaaDoor
