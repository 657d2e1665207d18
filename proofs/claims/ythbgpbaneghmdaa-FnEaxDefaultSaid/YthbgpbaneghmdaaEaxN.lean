/- The contract of eax.NewEAX. -/
import Derived.Test.YthbgpbaneghmdaaEaxS
set_option linter.unusedVariables false
set_option linter.unusedSimpArgs false
namespace Go.Proofs.Ythbgpbaneghmdaa
open Go.RowKit V
/-- An AEAD in block X: the cipher in block B, tags and nonces of 16 bytes. -/
def NewX (w : World) (B : Nat) (e : Ending) (w' : World) : Prop :=
  ∃ X, e = .returned (.tuple #[.iface 86 (.pointer (some ⟨X, 0, none⟩)), .nilIface]) ∧ Blk w' X 88 [cphV B, .int .i64 16, .int .i64 16] ∧ w.heap.size ≤ X ∧ Chg NoB w w'
set_option maxRecDepth 100000 in
set_option maxHeartbeats 2000000 in
theorem newEaxWith_any {w : World} {lo hi B : Nat} {perm sub mask : List Int} (hC : Cph w lo hi B perm sub mask) (hm : mask.length = 16) :
    Calls Try.prog 52 #[cphV B, .int .i64 16, .int .i64 16] w (NewX w B) := by
  have CB := As.mk hC
  have HM := As.mk hm
  have na := na_bs
  have me := me_bs
  clear hC hm
  go_enter Try.func52, Try.ntmps52
  go_wp2_with fail
  refine (blockSize_any CB.out HM.out).mono ?_
  rintro e1 w1 ⟨rfl, rfl⟩
  go_wp2_with fail
  go_ret2
  exact ⟨w1.heap.size, rfl, Blk.new w1 _ [cphV B, .int .i64 16, .int .i64 16], Nat.le_refl _, (Chg.refl NoB w1).alloc _⟩
set_option maxRecDepth 100000 in
theorem newEax_any {w : World} {lo hi B : Nat} {perm sub mask : List Int} (hC : Cph w lo hi B perm sub mask) (hm : mask.length = 16) :
    Calls Try.prog 36 #[cphV B] w (NewX w B) := by
  have H := As.mk (newEaxWith_any hC hm)
  clear hC hm
  go_enter Try.func36, Try.ntmps36
  go_wp2_with fail
  refine H.out.mono ?_
  rintro e1 w1 ⟨X, rfl, h1, h2, h3⟩
  go_wp2_with fail
  go_ret2
  exact ⟨X, rfl, h1, h2, h3⟩
end Go.Proofs.Ythbgpbaneghmdaa
