/- The walk of FnS2kSalted in the row's order. -/
import Derived.Test.YtmokepbmodmgeaaSalt2
set_option linter.unusedVariables false
namespace Go.Proofs.Ytmokepbmodmgeaa
open Go.RowKit V
theorem fnS2kSalted_walk (SA : Option Addr) (sc : Nat) (sub : List Int) (MA : Option Addr) (mc : Nat) (mask : List Int) (sz : Int) (PA : Option Addr) (pc : Nat) (pass : List Int) (TA : Option Addr) (tc : Nat) (salt : List Int) (W : World)
    (rs : Rk .u8 W SA sub) (bs : Byt sub) (rm : Rk .u8 W MA mask) (bm : Byt mask) (w1 : (Lit.int .i64 sz).wf = true) (rp : Rk .u8 W PA pass) (hpc : pass.length ≤ pc) (bp : Byt pass) (lp : pass.length ≤ 140737488351232) (rt : Rk .u8 W TA salt) (htc : salt.length ≤ tc) (bt : Byt salt) (lt : salt.length ≤ 140737488351232) :
    Calls Try.prog 4 #[.agg #[.slice SA sub.length sc, .slice MA mask.length mc], .int .i64 sz, .slice PA pass.length pc, .slice TA salt.length tc] W fun e w' => e = .returned (.bool true) ∧ Below W.heap.size W w' :=
  salt_walk SA _ sc MA _ mc sz PA _ pc TA _ tc W sub mask pass salt rs rm bs bm rp rt bp bt rfl rfl rfl rfl
end Go.Proofs.Ytmokepbmodmgeaa
