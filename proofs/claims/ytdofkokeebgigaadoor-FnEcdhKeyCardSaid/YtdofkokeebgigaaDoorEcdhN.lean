/- The contracts of the ecdh part's handed hash and cipher: New, Id, KeySize. -/
import Derived.Test.YtdofkokeebgigaaDoorDigOf
set_option linter.unusedVariables false
set_option linter.unusedSimpArgs false
namespace Go.Proofs.YtdofkokeebgigaaDoor
open Go.RowKit V
set_option maxRecDepth 100000 in
set_option maxHeartbeats 1000000 in
theorem newClos_any (bx : Nat) (SA : Option Addr) (sc : Nat) (MA : Option Addr) (n mc : Nat) (sub mask : List Int) (w : World) (hb : Blk w bx 24 [.slice SA 256 sc, .slice MA n mc]) (hs : sub.length = 256) (hm : mask.length = n) (n1 : 1 ≤ n) (n2 : n ≤ 64) (rs : Rb w SA sub) (rm : Rb w MA mask) (bs : Byt sub) (bm : Byt mask) :
    Calls Tryd.prog 14 #[.pointer (some ⟨bx, 0, none⟩)] w (DigOfS w n sub mask) := by
  have HD := As.mk (digestOf_s SA sc MA n mc sub mask w hs hm n1 n2 rs rm bs bm)
  have x0 := hb.cell 0
  have x1 := hb.cell 1
  simp only [List.getElem?_cons_zero, List.getElem?_cons_succ] at x0 x1
  clear hb hs hm rs rm bs bm
  go_enter Tryd.func14, Tryd.ntmps14
  go_wp2_with fail
  refine HD.out.mono ?_
  rintro e w1 ⟨hc, B0, B1, d, SA', sc', MA', mc', g, c, rfl, h0, h1, h2, hd⟩
  have H1 := As.mk (And.intro hc (And.intro h0 (And.intro h1 (And.intro h2 hd))))
  clear hc h0 h1 h2 hd
  go_wp2_with fail
  go_ret
  exact ⟨H1.out.1, B0, B1, d, SA', sc', MA', mc', g, c, rfl, H1.out.2.1, H1.out.2.2.1, H1.out.2.2.2.1, H1.out.2.2.2.2⟩
/-- What New answers. -/
def NewDig (w : World) (n : Nat) (sub mask : List Int) (e : Ending) (w' : World) : Prop :=
  Chg NoB w w' ∧ ∃ (B0 B1 d : Nat) (SA : Option Addr) (sc : Nat) (MA : Option Addr) (mc g c : Nat), e = .returned (.iface 43 (.pointer (some ⟨d, 0, none⟩))) ∧ w.heap.size ≤ B0 ∧ B1 ≤ w'.heap.size ∧ B1 ≤ g ∧ Ds w' B0 B1 d n SA sc MA mc sub mask g c (mask, 0)
set_option maxRecDepth 100000 in
set_option maxHeartbeats 1000000 in
theorem newH_any (hid : Int) (bx : Nat) (SA : Option Addr) (sc : Nat) (MA : Option Addr) (n mc : Nat) (sub mask : List Int) (w : World) (hb : Blk w bx 24 [.slice SA 256 sc, .slice MA n mc]) (hs : sub.length = 256) (hm : mask.length = n) (n1 : 1 ≤ n) (n2 : n ≤ 64) (rs : Rb w SA sub) (rm : Rb w MA mask) (bs : Byt sub) (bm : Byt mask) :
    Calls Tryd.prog 51 #[.agg #[.int .u8 hid, .func (.func 14) #[] #[.pointer (some ⟨bx, 0, none⟩)]]] w (NewDig w n sub mask) := by
  have HD := As.mk (fun w' (hc : Chg NoB w w') => newClos_any bx SA sc MA n mc sub mask w' (hb.chg hc (fun e => e)) hs hm n1 n2 (rs.keep hc) (rm.keep hc) bs bm)
  clear hb hs hm rs rm bs bm
  go_enter Tryd.func51, Tryd.ntmps51
  go_wp2_with fail
  have C0 := As.mk ((Chg.refl NoB w).alloc (.cells #[.int .u8 hid, .func (.func 14) #[] #[.pointer (some ⟨bx, 0, none⟩)]] 51))
  refine (HD.out _ C0.out).mono ?_
  rintro e w1 ⟨hc, B0, B1, d, SA', sc', MA', mc', g, c, rfl, h0, h1, h2, hd⟩
  have H1 := As.mk (And.intro (C0.out.trans hc (fun _ _ e => e)) (And.intro (Nat.le_trans C0.out.size h0) (And.intro h1 (And.intro h2 hd))))
  clear hc h0 h1 h2 hd
  go_wp2_with fail
  go_ret
  exact ⟨H1.out.1, B0, B1, d, SA', sc', MA', mc', g, c, rfl, H1.out.2.1, H1.out.2.2.1, H1.out.2.2.2.1, H1.out.2.2.2.2⟩
theorem idH_any (hid : Int) (v : Value) (w : World) :
    Calls Tryd.prog 50 #[.agg #[.int .u8 hid, v]] w fun e w' => e = .returned (.int .u8 hid) ∧ Chg NoB w w' := by
  go_enter Tryd.func50, Tryd.ntmps50
  go_wp2_with fail
  go_ret
  exact ⟨rfl, (Chg.refl NoB w).alloc _⟩
theorem idC_any (cid : Int) (v : Value) (w : World) :
    Calls Tryd.prog 55 #[.agg #[.int .u8 cid, v]] w fun e w' => e = .returned (.int .u8 cid) ∧ Chg NoB w w' := by
  go_enter Tryd.func55, Tryd.ntmps55
  go_wp2_with fail
  go_ret
  exact ⟨rfl, (Chg.refl NoB w).alloc _⟩
theorem sizeC_any (v : Value) (ks : Int) (w : World) :
    Calls Tryd.prog 56 #[.agg #[v, .int .i64 ks]] w fun e w' => e = .returned (.int .i64 ks) ∧ Chg NoB w w' := by
  go_enter Tryd.func56, Tryd.ntmps56
  go_wp2_with fail
  go_ret
  exact ⟨rfl, (Chg.refl NoB w).alloc _⟩
end Go.Proofs.YtdofkokeebgigaaDoor
