/- The walk of FnEcdhKey in the row's order. -/
import Derived.Test.YtdofkokeebgigaaDoorEcdh3
set_option linter.unusedVariables false
namespace Go.Proofs.YtdofkokeebgigaaDoor
open Go.RowKit V
theorem fnEcdhKey_walk (SA : Option Addr) (sc : Nat) (sub : List Int) (MA : Option Addr) (mc : Nat) (mask : List Int) (i0 i1 : Int) (sz : Int) (ZA : Option Addr) (zc : Nat) (zb : List Int) (OA : Option Addr) (oc : Nat) (oid : List Int) (FA : Option Addr) (fc : Nat) (pr : List Int) (W : World)
    (rs : Rk .u8 W SA sub) (bs : Byt sub) (rm : Rk .u8 W MA mask) (bm : Byt mask) (b0 : IsB i0) (b1 : IsB i1) (w2 : (Lit.int .i64 sz).wf = true)
    (rz : Rk .u8 W ZA zb) (hzc : zb.length ≤ zc) (bz : Byt zb) (lz : zb.length ≤ 140737488351232)
    (ro : Rk .u8 W OA oid) (hoc : oid.length ≤ oc) (bo : Byt oid) (lo : oid.length ≤ 140737488351232)
    (rf : Rk .u8 W FA pr) (hfc : pr.length ≤ fc) (bf : Byt pr) (lf : pr.length ≤ 140737488351232) :
    Calls Tryd.prog 3 #[.agg #[.slice SA sub.length sc, .slice MA mask.length mc], .agg #[.int .u8 i0, .int .u8 i1], .int .i64 sz, .slice ZA zb.length zc, .slice OA oid.length oc, .slice FA pr.length fc] W fun e w' => e = .returned (.bool true) ∧ Below W.heap.size W w' :=
  ecdh_walk SA _ sc MA _ mc i0 i1 sz ZA _ zc OA _ oc FA _ fc W sub mask zb oid pr rs rm bs bm b0 b1 rz hzc bz ro bo rf hfc bf rfl rfl rfl rfl rfl
end Go.Proofs.YtdofkokeebgigaaDoor
