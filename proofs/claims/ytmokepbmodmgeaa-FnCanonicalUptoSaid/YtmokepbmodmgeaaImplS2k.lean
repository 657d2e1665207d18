/- The contracts of impl.S2kSalted. -/
import Derived.Test.YtmokepbmodmgeaaSalted
set_option linter.unusedVariables false
set_option linter.unusedSimpArgs false
namespace Go.Proofs.Ytmokepbmodmgeaa
open Go.RowKit V
/-- What impl's transforms answer. -/
def ImplS (w : World) (xs : List Int) (size : Nat) (e : Ending) (w' : World) : Prop :=
  Chg NoB w w' ∧ ∃ (g c : Nat), e = .returned (.tuple #[.slice (some ⟨g, 0, none⟩) size c, .bool true]) ∧ Rb w' (some ⟨g, 0, none⟩) xs
set_option maxRecDepth 100000 in
set_option maxHeartbeats 2000000 in
theorem implSalted_any (SA : Option Addr) (sc : Nat) (MA : Option Addr) (n mc : Nat) (sub mask pass salt : List Int) (size : Nat) (PA : Option Addr) (pn pc : Nat) (TA : Option Addr) (tn tc : Nat) (w : World)
    (hs : sub.length = 256) (hm : mask.length = n) (n1 : 1 ≤ n) (n2 : n ≤ 64) (rs : Rb w SA sub) (rm : Rb w MA mask) (bs : Byt sub) (bm : Byt mask)
    (rp : Rb w PA pass) (rt : Rb w TA salt) (hpn : pn = pass.length) (htn : tn = salt.length) (bp : Byt pass) (bt : Byt salt) (hsz : size ≤ 65536) :
    Calls Try.prog 10 #[.agg #[.slice SA 256 sc, .slice MA n mc], .int .i64 size, .slice PA pn pc, .slice TA tn tc] w (ImplS w (stretch sub n mask (salt ++ pass) size) size) := by
  have H1 := As.mk (And.intro hs (And.intro hm (And.intro bs bm)))
  have H2 := As.mk (And.intro rs rm)
  have H3 := As.mk (And.intro hpn (And.intro htn (And.intro bp bt)))
  have RP := As.mk (Rf.of rp (Nat.le_refl _))
  have RT := As.mk (Rf.of rt (Nat.le_refl _))
  have hsz2 : ¬ ((65536 : Int) < (size : Int)) := by omega
  have hsz3 : (size : Int) ≤ 65536 := by omega
  clear hs hm rs rm bs bm rp rt hpn htn bp bt
  have B0 := As.mk (Blk.new w 24 [.slice SA 256 sc, .slice MA n mc])
  have C0 := As.mk ((Chg.refl NoB w).alloc (.cells #[.slice SA 256 sc, .slice MA n mc] 24))
  go_enter Try.func10, Try.ntmps10
  go_wp2_with fail
  refine (right_yes SA sc MA n mc _ n1 n2).mono ?_
  rintro e w1 ⟨rfl, hc1⟩
  have C1 := As.mk (C0.out.trans hc1 (fun _ _ e => e))
  have b1 := B0.out.chg hc1 (fun e => e)
  have B1 := As.mk b1
  have hw1 : w.heap.size ≤ w1.heap.size := C1.out.size
  clear hc1 b1
  go_wp2_with ((with_reducible refine gate (N := 23) rfl ?_); refine wpList_make_k rfl _ 22 rfl 5 .u8 1 Try.underlying22 info8 (by decide) size _ rfl rfl (by omega) ?_; intro w2 g HG ho2 hc2 hz2; have b2 := B1.out.chg hc2 (fun e => e); have x0 := b2.cell 0; have x1 := b2.cell 1; simp only [List.getElem?_cons_zero, List.getElem?_cons_succ] at x0 x1; have B2 := As.mk b2; have HO2 := As.mk ho2; have C2 := As.mk (C1.out.trans hc2 (fun _ _ e => e)); have HZ2 := As.mk hz2; have hgb := (own_blocks ho2); have HGB := As.mk hgb; clear hgb ho2 hc2 hz2 b2)
  refine (digestOf_any SA sc MA n mc sub mask _ H1.out.1 H1.out.2.1 n1 n2 (H2.out.1.keep C2.out) (H2.out.2.keep C2.out) H1.out.2.2.1 H1.out.2.2.2).mono ?_
  rintro e w3 ⟨hc3, D0, D1, d, SA', sc', MA', mc', rfl, hd0, hd1, hdw⟩
  have C3 := As.mk (C2.out.trans hc3 (fun _ _ e => e))
  have HO3 := As.mk (own_keep HO2.out hc3)
  have HS := As.mk (salted_any w1.heap.size D0 D1 d g size n SA' sc' MA' mc' sub mask pass salt size PA pn pc TA tn tc w3 hdw hd1 HO3.out (by have := HGB.out.2; omega) hsz (Nat.le_refl _)
    ((RP.out.keep C3.out).mono (fun b _ hb => by have := HGB.out.1; omega)) ((RT.out.keep C3.out).mono (fun b _ hb => by have := HGB.out.1; omega)) H3.out.1 H3.out.2.1 H3.out.2.2.1 H3.out.2.2.2)
  have HGD := As.mk (And.intro HGB.out.1 (And.intro hdw.1.dge (And.intro hd0 hdw.1.dlt)))
  have hw2 : w1.heap.size ≤ w2.heap.size := by have := HZ2.out; omega
  clear hc3 hdw hd0 hd1 x0 x1
  go_wp2_with fail
  refine HS.out.mono ?_
  rintro e w4 ⟨rfl, ho4, hc4⟩
  have HO4 := As.mk (own_reads ho4)
  have C4 : As (Chg NoB w w4) := ⟨C3.out.trans hc4 (fun b hb e => by have := HGD.out; omega)⟩
  clear ho4 hc4
  go_wp2_with fail
  go_ret2
  exact ⟨C4.out, g, size, rfl, HO4.out⟩
end Go.Proofs.Ytmokepbmodmgeaa
