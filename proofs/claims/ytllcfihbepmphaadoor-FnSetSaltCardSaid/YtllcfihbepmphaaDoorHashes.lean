/- The contracts of the table of hashes: spec.HashOf, spec.SaltSize, packet.SaltLengthForHash, laws.signHash. -/
import Derived.Test.YtllcfihbepmphaaDoorProg
import Derived.Test.YtllcfihbepmphaaDoorV2
set_option linter.unusedVariables false
set_option linter.unusedSimpArgs false
namespace Go.Proofs.YtllcfihbepmphaaDoor
open Go.RowKit V
/-- Go's number of a hash, from the standard's. -/
def goHash (id : Int) : Int := if id = 8 then 5 else if id = 9 then 6 else if id = 10 then 7 else if id = 11 then 4 else if id = 12 then 11 else 13
def saltLen (id : Int) : Int := if id = 8 ∨ id = 11 ∨ id = 12 then 16 else if id = 9 then 24 else 32
def IsId (id : Int) : Prop := id = 8 ∨ id = 9 ∨ id = 10 ∨ id = 11 ∨ id = 12 ∨ id = 14
set_option maxHeartbeats 1000000 in
theorem signHash_any (h : Int) (w : World) (h0 : 0 ≤ h) (h1 : h ≤ 255) : Calls Tryd.prog 9 #[.int .u8 h] w fun e w' => (∃ id, e = .returned (.int .i64 id) ∧ IsId id) ∧ Chg NoB w w' := by
  have hr : h % 6 = 0 ∨ h % 6 = 1 ∨ h % 6 = 2 ∨ h % 6 = 3 ∨ h % 6 = 4 ∨ h % 6 = 5 := by omega
  rcases hr with hr | hr | hr | hr | hr | hr
  all_goals
    go_enter Tryd.func9, Tryd.ntmps9
    go_wp2
    go_ret
    exact ⟨⟨_, rfl, by simp [IsId]⟩, (Chg.refl NoB w).alloc _⟩
set_option maxHeartbeats 1000000 in
theorem saltSize_any (id : Int) (w : World) (h : IsId id) : Calls Tryd.prog 12 #[.int .i64 id] w fun e w' => e = .returned (.int .i64 (saltLen id)) ∧ w' = w := by
  rcases h with rfl | rfl | rfl | rfl | rfl | rfl
  all_goals
    go_enter Tryd.func12, Tryd.ntmps12
    go_wp2
    go_ret
    exact ⟨rfl, rfl⟩
set_option maxHeartbeats 1000000 in
theorem saltLength_any (id : Int) (w : World) (h : IsId id) : Calls Tryd.prog 51 #[.int .u64 (goHash id)] w fun e w' => e = .returned (.tuple #[.int .i64 (saltLen id), .nilIface]) ∧ w' = w := by
  rcases h with rfl | rfl | rfl | rfl | rfl | rfl
  all_goals
    simp only [goHash]
    go_enter Tryd.func51, Tryd.ntmps51
    go_wp2
    go_ret2
    exact ⟨rfl, rfl⟩
end Go.Proofs.YtllcfihbepmphaaDoor
