/- The walk of FnEcdhKey. -/
import Derived.Test.YtdofkokeebgigaaDoorEcdh2
set_option linter.unusedVariables false
namespace Go.Proofs.YtdofkokeebgigaaDoor
open Go.RowKit V
theorem ecdh_walk (SA : Option Addr) (sn sc : Nat) (MA : Option Addr) (mn mc : Nat) (i0 i1 sz : Int) (ZA : Option Addr) (zn zc : Nat) (OA : Option Addr) (on oc : Nat) (FA : Option Addr) (fn fc : Nat) (w : World) (sub mask zb oid pr : List Int)
    (rs : Rb w SA sub) (rm : Rb w MA mask) (bs : Byt sub) (bm : Byt mask) (b0 : IsB i0) (b1 : IsB i1) (rz : Rb w ZA zb) (hzc : zn ≤ zc) (bz : Byt zb) (ro : Rb w OA oid) (bo : Byt oid) (rf : Rb w FA pr) (hfc : fn ≤ fc) (bf : Byt pr) (hsn : sn = sub.length) (hmn : mn = mask.length) (hzn : zn = zb.length) (hon : on = oid.length) (hfn : fn = pr.length) :
    Calls Tryd.prog 3 #[.agg #[.slice SA sn sc, .slice MA mn mc], .agg #[.int .u8 i0, .int .u8 i1], .int .i64 sz, .slice ZA zn zc, .slice OA on oc, .slice FA fn fc] w (Yes w) := by
  by_cases h : sn ≤ 2147483647 ∧ mn ≤ 2147483647
  · by_cases h2 : zn ≤ 2147483647
    · by_cases h3 : on ≤ 2147483647
      · by_cases h4 : fn ≤ 2147483647
        · by_cases hr : sn = 256 ∧ 1 ≤ mn ∧ mn ≤ 64
          · by_cases z0 : 0 ≤ sz
            · by_cases z1 : sz ≤ (mn : Int)
              · by_cases hb : zn ≤ 4096
                · by_cases o0 : 1 ≤ on
                  · by_cases o1 : on ≤ 100
                    · by_cases f0 : fn = 20
                      · obtain ⟨ks, rfl⟩ := Int.eq_ofNat_of_zero_le z0
                        obtain ⟨e256, m1, m64⟩ := hr
                        subst e256
                        subst f0
                        exact ecdh_good SA sc MA mn mc sub mask i0 i1 ks ZA zn zc zb OA on oc oid FA fc pr w hsn.symm hmn.symm m1 m64 rs rm bs bm b0 b1 (by omega) rz hzn hzc bz hb ro hon o0 o1 bo rf hfn hfc bf
                      · exact ecdh_f SA sn sc MA mn mc i0 i1 sz ZA zn zc OA on oc FA fn fc w h h2 h3 h4 hr z0 z1 hb o0 o1 f0
                    · exact ecdh_o1 SA sn sc MA mn mc i0 i1 sz ZA zn zc OA on oc FA fn fc w h h2 h3 h4 hr z0 z1 hb o0 (by omega)
                  · exact ecdh_o0 SA sn sc MA mn mc i0 i1 sz ZA zn zc OA on oc FA fn fc w h h2 h3 h4 hr z0 z1 hb (by omega)
                · exact ecdh_brief SA sn sc MA mn mc i0 i1 sz ZA zn zc OA on oc FA fn fc w h h2 h3 h4 hr z0 z1 hb
              · exact ecdh_big SA sn sc MA mn mc i0 i1 sz ZA zn zc OA on oc FA fn fc w h h2 h3 h4 hr z0 (by omega)
            · exact ecdh_neg SA sn sc MA mn mc i0 i1 sz ZA zn zc OA on oc FA fn fc w h h2 h3 h4 hr (by omega)
          · exact ecdh_wrong SA sn sc MA mn mc i0 i1 sz ZA zn zc OA on oc FA fn fc w h h2 h3 h4 hr
        · exact ecdh_l3 SA sn sc MA mn mc i0 i1 sz ZA zn zc OA on oc FA fn fc w h h2 h3 (by omega)
      · exact ecdh_l2 SA sn sc MA mn mc i0 i1 sz ZA zn zc OA on oc FA fn fc w h h2 (by omega)
    · exact ecdh_l1 SA sn sc MA mn mc i0 i1 sz ZA zn zc OA on oc FA fn fc w h (by omega)
  · exact ecdh_unfit SA sn sc MA mn mc i0 i1 sz ZA zn zc OA on oc FA fn fc w h
end Go.Proofs.YtdofkokeebgigaaDoor
