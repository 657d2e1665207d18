/- The contracts of ecdh.ZzBuildKey and of impl.EcdhKey. -/
import Derived.Test.YtdofkokeebgigaaDoorEcdhK
set_option linter.unusedVariables false
set_option linter.unusedSimpArgs false
namespace Go.Proofs.YtdofkokeebgigaaDoor
open Go.RowKit V
set_option maxRecDepth 100000 in
set_option maxHeartbeats 1000000 in
theorem zzBuild_any (bx : Nat) (hid cid : Int) (ks : Nat) (SA : Option Addr) (sc : Nat) (MA : Option Addr) (n mc : Nat) (sub mask : List Int) (ZA : Option Addr) (zn zc : Nat) (zb : List Int) (OA : Option Addr) (on oc : Nat) (full : List Int) (FA : Option Addr) (fn fc : Nat) (pr : List Int) (w : World)
    (hb : Blk w bx 24 [.slice SA 256 sc, .slice MA n mc]) (hs : sub.length = 256) (hm : mask.length = n) (n1 : 1 ≤ n) (n2 : n ≤ 64) (rs : Rb w SA sub) (rm : Rb w MA mask) (bs : Byt sub) (bm : Byt mask)
    (rz : Rb w ZA zb) (hzn : zn = zb.length) (hzc : zn ≤ zc) (bz : Byt zb) (ro : Rb w OA full) (hon : on = full.length) (ho1 : 1 ≤ on) (ho2 : on ≤ 101) (bo : Byt full) (rf : Rb w FA pr) (hfn : fn = pr.length) (hf20 : fn = 20) (hfc : fn ≤ fc) (bf : Byt pr) (bh : IsB hid) (bc : IsB cid) (hks : ks ≤ n) :
    Calls Tryd.prog 13 #[.int .u8 hid, .func (.func 14) #[] #[.pointer (some ⟨bx, 0, none⟩)], .int .u8 cid, .int .i64 ks, .slice ZA zn zc, .slice OA on oc, .slice FA fn fc, .bool false, .bool false] w (Keyed w ks ((keyL sub n mask zb (paramL full hid cid pr)).take ks)) := by
  have C0 := As.mk ((Chg.refl NoB w).alloc (.cells #[.nilIface, .slice none 0 0, .iface 51 (.agg #[.int .u8 hid, .func (.func 14) #[] #[.pointer (some ⟨bx, 0, none⟩)]]), .iface 53 (.agg #[.int .u8 cid, .int .i64 ks])] 63))
  have HK := As.mk (buildKey_any w.heap.size bx hid cid ks SA sc MA n mc sub mask ZA zn zc zb OA on oc full FA fn fc pr _ (Blk.new w 63 [.nilIface, .slice none 0 0, .iface 51 (.agg #[.int .u8 hid, .func (.func 14) #[] #[.pointer (some ⟨bx, 0, none⟩)]]), .iface 53 (.agg #[.int .u8 cid, .int .i64 ks])]) (hb.chg C0.out (fun e => e)) hs hm n1 n2 (rs.keep C0.out) (rm.keep C0.out) bs bm (rz.keep C0.out) hzn hzc bz (ro.keep C0.out) hon ho1 ho2 bo (rf.keep C0.out) hfn hf20 hfc bf bh bc hks)
  clear hb hs hm rs rm bs bm rz hzn bz ro hon bo rf hfn hf20 bf bh bc
  go_enter Tryd.func13, Tryd.ntmps13
  go_wp2_with fail
  refine HK.out.mono ?_
  rintro e w1 ⟨hc1, A1, c1, rfl, hr1, hl1⟩
  have C1 := As.mk (C0.out.trans hc1 (fun _ _ e => e))
  have H1 := As.mk (And.intro hr1 hl1)
  clear hc1 hr1 hl1
  go_wp2_with fail
  go_ret2
  exact ⟨C1.out, A1, c1, rfl, H1.out.1, H1.out.2⟩
/-- What impl.EcdhKey answers. -/
def ImplK (w : World) (ks : Nat) (xs : List Int) (e : Ending) (w' : World) : Prop :=
  Chg NoB w w' ∧ ∃ (A : Option Addr) (c : Nat), e = .returned (.tuple #[.slice A ks c, .bool true]) ∧ Rb w' A xs ∧ xs.length = ks
set_option maxRecDepth 100000 in
set_option maxHeartbeats 1000000 in
theorem implEcdh_any (hid cid : Int) (ks : Nat) (SA : Option Addr) (sc : Nat) (MA : Option Addr) (n mc : Nat) (sub mask : List Int) (ZA : Option Addr) (zn zc : Nat) (zb : List Int) (OA : Option Addr) (on oc : Nat) (full : List Int) (FA : Option Addr) (fn fc : Nat) (pr : List Int) (w : World)
    (hs : sub.length = 256) (hm : mask.length = n) (n1 : 1 ≤ n) (n2 : n ≤ 64) (rs : Rb w SA sub) (rm : Rb w MA mask) (bs : Byt sub) (bm : Byt mask)
    (rz : Rb w ZA zb) (hzn : zn = zb.length) (hzc : zn ≤ zc) (bz : Byt zb) (ro : Rb w OA full) (hon : on = full.length) (ho1 : 1 ≤ on) (ho2 : on ≤ 101) (bo : Byt full) (rf : Rb w FA pr) (hfn : fn = pr.length) (hf20 : fn = 20) (hfc : fn ≤ fc) (bf : Byt pr) (bh : IsB hid) (bc : IsB cid) (hks : ks ≤ n) :
    Calls Tryd.prog 7 #[.agg #[.slice SA 256 sc, .slice MA n mc], .int .u8 hid, .int .u8 cid, .int .i64 ks, .slice ZA zn zc, .slice OA on oc, .slice FA fn fc, .bool false, .bool false] w (ImplK w ks ((keyL sub n mask zb (paramL full hid cid pr)).take ks)) := by
  have B0 := As.mk (Blk.new w 24 [.slice SA 256 sc, .slice MA n mc])
  have C0 := As.mk ((Chg.refl NoB w).alloc (.cells #[.slice SA 256 sc, .slice MA n mc] 24))
  have HK := As.mk (fun w' (hc : Chg NoB w w') (hbk : Blk w' w.heap.size 24 [.slice SA 256 sc, .slice MA n mc]) => zzBuild_any w.heap.size hid cid ks SA sc MA n mc sub mask ZA zn zc zb OA on oc full FA fn fc pr w' hbk hs hm n1 n2 (rs.keep hc) (rm.keep hc) bs bm (rz.keep hc) hzn hzc bz (ro.keep hc) hon ho1 ho2 bo (rf.keep hc) hfn hf20 hfc bf bh bc hks)
  have hk64 : ¬ ((64 : Int) < (ks : Int)) := by omega
  clear hs hm rs rm bs bm rz hzn bz ro hon bo rf hfn hf20 bf bh bc
  go_enter Tryd.func7, Tryd.ntmps7
  go_wp2_with fail
  refine (right_yes SA sc MA n mc _ n1 n2).mono ?_
  rintro e w1 ⟨rfl, hc1⟩
  have C1 := As.mk (C0.out.trans hc1 (fun _ _ e => e))
  have B1 := As.mk (B0.out.chg hc1 (fun e => e))
  clear hc1
  go_wp2_with fail
  refine (HK.out _ C1.out B1.out).mono ?_
  rintro e w2 ⟨hc2, A2, c2, rfl, hr2, hl2⟩
  have C2 := As.mk (C1.out.trans hc2 (fun _ _ e => e))
  have R2 := As.mk hr2
  have HXL := As.mk hl2
  generalize (keyL sub n mask zb (paramL full hid cid pr)).take ks = out at *
  clear hc2 hr2 hl2
  go_upto_region 4 with fail
  go_cut [18, 19] (fun s18 s19 wx => ∃ A c, s18 = .slice A ks c ∧ s19 = .bool true ∧ As (Rb wx A out) ∧ As (Chg NoB w wx))
  case first =>
    go_region_law (first
      | (go_simp
         refine (own_any A2 ks c2 out _ HXL.out.symm (R2.out.keep ?c1) (by have := HXL.out; omega)).mono ?_
         case c1 => repeat (first | exact Chg.refl _ _ | (with_reducible apply Chg.drew) | (with_reducible apply Chg.alloc))
         rintro e w5 ⟨v5, rfl, ho5, hc5⟩
         obtain ⟨A5, c5, hv5, _, hr5⟩ := ow_form (ow_of ho5)
         rw [HXL.out] at hv5
         subst hv5
         have HR5 := As.mk hr5
         have C5 : As (Chg NoB w w5) := ⟨(C2.out.trans (by repeat (first | exact Chg.refl _ _ | (with_reducible apply Chg.drew) | (with_reducible apply Chg.alloc))) (fun _ _ e => e)).trans hc5 (fun _ _ e => e)⟩
         clear ho5 hc5 hr5))
    all_goals
      go_wp2_with fail
      go_meet
      exact ⟨A5, c5, rfl, rfl, HR5, C5⟩
  case rest =>
    obtain ⟨A5, c5, rfl, rfl, HR5, C5⟩ := hcut
    go_wp2_with fail
    go_ret2
    exact ⟨C5.out, A5, c5, rfl, HR5.out, HXL.out⟩
end Go.Proofs.YtdofkokeebgigaaDoor
