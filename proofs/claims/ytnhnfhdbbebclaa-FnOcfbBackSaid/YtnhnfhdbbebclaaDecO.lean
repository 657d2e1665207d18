/- The contract of impl.OcfbDecrypt. -/
import Derived.Test.YtnhnfhdbbebclaaOfbM
import Derived.Test.YtnhnfhdbbebclaaEncO
import Derived.Test.YtnhnfhdbbebclaaStrD
set_option linter.unusedVariables false
set_option linter.unusedSimpArgs false
namespace Go.Proofs.Ytnhnfhdbbebclaa
open Go.RowKit V

set_option maxRecDepth 100000 in
set_option maxHeartbeats 2000000 in
theorem ocfbDecrypt_any {PA : Option Addr} {n pc : Nat} {SA : Option Addr} {sc : Nat} {MA : Option Addr} {mc : Nat} {perm sub mask pre : List Int} {RA : Option Addr} {rc : Nat} {A : Option Addr} {m c : Nat} {vs : List Sl} {xss : List (List Int)} {w : World} (rs : Bool)
    (hr : RightB perm sub n) (hm : mask.length = n) (rp : Rb w PA perm) (rsu : Rb w SA sub) (rm : Rb w MA mask) (bs : Byt sub) (bm : Byt mask) (h2 : 2 ≤ n) (rr : Rb w RA pre) (hrl : n + 2 = pre.length) (br : Byt pre)
    (hmx : m = vs.length) (hrr : Rrs w A vs xss) (hA : ∀ ad, A = some ad → ad.block < w.heap.size) (hp : ∀ j (h : j < vs.length) (h' : j < xss.length), Pz (fun _ => True) w vs[j] xss[j])
    (hby : ∀ xs ∈ xss, Byt xs) (hlen : xss.length ≤ 4096) (hl : ∀ xs ∈ xss, xs.length ≤ 140737488351232) :
    Calls Try.prog 24 #[blkV PA n pc SA 256 sc MA n mc, .slice RA (n + 2) rc, .bool rs, .slice A m c] w (OcfbOk w (unPre (encL perm sub mask) n pre) (outsD (encL perm sub mask) n (ofSt (encL perm sub mask) n pre rs) xss)) := by
  have HR := As.mk hr
  have HP : As (n = perm.length) := ⟨hr.2.2.1.1.symm⟩
  have HS : As (256 = sub.length) := ⟨hr.2.2.2.1.symm⟩
  have HM := As.mk hm
  have HBY := As.mk (And.intro bs (And.intro bm br))
  have RP := As.mk rp
  have RS := As.mk rsu
  have RM := As.mk rm
  have RR := As.mk rr
  have HRL := As.mk hrl
  have HMX := As.mk hmx
  have RO := As.mk hrr
  have HA := As.mk hA
  have HPZ := As.mk hp
  have HPB := As.mk hby
  have HLEN := As.mk hlen
  have HPL := As.mk hl
  have n32 : n ≤ 32 := hr.2.1
  have i2 : ¬ (n : Int) < 2 := by omega
  clear hr hm bs bm br rp rsu rm rr hrl hmx hrr hA hp hby hlen hl
  unfold blkV
  obtain ⟨w0, hw0⟩ : ∃ w0, w0 = w.alloc (.cells #[.slice PA n pc, .slice SA 256 sc, .slice MA n mc] 24) := ⟨_, rfl⟩
  have C0 : As (Chg NoB w w0) := ⟨by rw [hw0]; exact (Chg.refl NoB w).alloc _⟩
  have B0 : As (Blk w0 w.heap.size 24 [.slice PA n pc, .slice SA 256 sc, .slice MA n mc]) := ⟨by rw [hw0]; exact Blk.new _ _ _⟩
  go_enter Try.func24, Try.ntmps24
  go_upto_region 1 with fail
  rw [← hw0]
  have x0 := B0.out.cell 0
  have x1 := B0.out.cell 1
  have x2 := B0.out.cell 2
  simp only [List.getElem?_cons_zero, List.getElem?_cons_succ] at x0 x1 x2
  clear hw0
  go_wp2_with (first
    | (with_reducible refine (blockRight_yes PA n pc SA 256 sc MA n mc perm sub w0 HP.out HS.out (RP.out.keep C0.out) (RS.out.keep C0.out) HR.out).mono ?_
       rintro e1 w1 ⟨rfl, hc1⟩
       have C1 := As.mk (C0.out.trans hc1 (fun _ _ e => e))
       have B1 := As.mk (B0.out.chg hc1 (fun e => e))
       clear hc1 x0 x1 x2 B0
       have x0 := B1.out.cell 0
       have x1 := B1.out.cell 1
       have x2 := B1.out.cell 2
       simp only [List.getElem?_cons_zero, List.getElem?_cons_succ] at x0 x1 x2)
    | (with_reducible refine (own_any RA (n + 2) rc pre w1 HRL.out (RR.out.keep C1.out) (by have := HRL.out; omega)).mono ?_
       rintro e2 w2 ⟨v2, rfl, ho2, hc2⟩
       obtain ⟨P, pcx, hv2, hPC, hP1, hP2⟩ := own_form_pos ho2 (by have := HRL.out; omega)
       rw [← HRL.out] at hv2
       subst hv2
       have O2 := As.mk ho2
       have C2 := As.mk (C1.out.trans hc2 (fun _ _ e => e))
       have B2 := As.mk (B1.out.chg hc2 (fun e => e))
       have HPB2 : As (w1.heap.size ≤ P ∧ P < w2.heap.size) := ⟨hP1, hP2⟩
       clear ho2 hc2 hPC hP1 hP2 x0 x1 x2 B1
       have x0 := B2.out.cell 0
       have x1 := B2.out.cell 1
       have x2 := B2.out.cell 2
       simp only [List.getElem?_cons_zero, List.getElem?_cons_succ] at x0 x1 x2)
    | (with_reducible refine (cipherOf_any PA n pc SA sc MA n mc perm sub mask w2 HP.out.symm HS.out.symm HM.out n32 n32 (RP.out.keep C2.out) (RS.out.keep C2.out) (RM.out.keep C2.out) HBY.out.1).mono ?_
       rintro e3 w3 ⟨hc3, lo, hi, B, rfl, hlo, hhi, hcb⟩
       have C3 := As.mk (C2.out.trans hc3 (fun _ _ e => e))
       have CB := As.mk hcb
       have HHI := As.mk (And.intro hhi hlo)
       have O3 := As.mk (own_keep O2.out hc3)
       clear hc3 hlo hhi hcb x0 x1 x2 B2))
  refine (newOcfbD_any rs CB.out HR.out HM.out HBY.out.1 HBY.out.2.1 HHI.out.1 (.inl (by have := HHI.out.2; have := HPB2.out; omega)) O3.out HBY.out.2.2 h2).mono ?_
  rintro e4 w4 ⟨X, F, rfl, hof, hXb, ho4, hc4⟩
  have OF4 := As.mk hof
  have O4 := As.mk ho4
  have HW1 := As.mk C1.out.size
  have CB4 := As.mk (CB.out.chg hc4 (fun b h1 h2 e => by have := HHI.out.2; have := HPB2.out; omega))
  have C4 : As (Chg NoB w w4) := ⟨C3.out.trans hc4 (fun b hb e => by have := HW1.out; have := HPB2.out; omega)⟩
  have HXF : As (hi ≤ X ∧ hi ≤ F ∧ w.heap.size ≤ X ∧ w.heap.size ≤ F ∧ P < X ∧ P < F ∧ w.heap.size ≤ P) := ⟨by
    have h1 := hXb; have h3 := (own_blocks hof.2.1).1; have h4 := HHI.out; have h5 := C3.out.size; have h6 := HPB2.out; have h7 := HW1.out; have h8 := CB.out.hi_le; omega⟩
  clear hof hXb ho4 hc4
  go_wp2_with fail
  refine (streamedD_any CB4.out HR.out HM.out HBY.out.1 HBY.out.2.1 OF4.out HXF.out.1 HXF.out.2.1 HMX.out (RO.out.keep C4.out) (fun ad e => by have := HA.out ad e; have := HXF.out; omega) (fun j h h' => (((HPZ.out j h h').mono (K' := fun b => b < w.heap.size) (fun b hb _ => hb)).chg C4.out (fun _ _ _ e => e)).mono (fun b _ h => by have := HXF.out; omega)) HPB.out HLEN.out HPL.out).mono ?_
  rintro e5 w5 ⟨v5, rfl, hrw, hc5⟩
  have RW5 := As.mk hrw
  have HC5 := As.mk hc5
  clear hrw hc5
  go_wp2_with fail
  go_ret3
  refine ⟨_, v5, rfl, own_lower (base' := w.heap.size) (own_chg O4.out HC5.out (fun b hb e => by injection hb with hb; subst hb; have := HXF.out; have e' : P = X ∨ P = F := e; omega)) HW1.out, (RW5.out.mono (fun b _ h => Nat.le_trans C4.out.size h)).lower C4.out.size, C4.out.trans HC5.out (fun b hb e => by have := HXF.out; omega)⟩
end Go.Proofs.Ytnhnfhdbbebclaa
