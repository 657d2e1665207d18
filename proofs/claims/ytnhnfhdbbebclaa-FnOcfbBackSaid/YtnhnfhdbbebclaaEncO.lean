/- The contract of impl.OcfbEncrypt. -/
import Derived.Test.YtnhnfhdbbebclaaOfbN
import Derived.Test.YtnhnfhdbbebclaaStrE
set_option linter.unusedVariables false
set_option linter.unusedSimpArgs false
namespace Go.Proofs.Ytnhnfhdbbebclaa
open Go.RowKit V

/-- The prefix, the pieces and true. -/
def OcfbOk (w : World) (pre : List Int) (yss : List (List Int)) (e : Ending) (w' : World) : Prop :=
  ∃ v0 v1, e = .returned (.tuple #[v0, v1, .bool true]) ∧ Own w' w.heap.size 5 .u8 v0 pre ∧ Rws (fun b => w.heap.size ≤ b) w' w.heap.size 22 v1 yss ∧ Chg NoB w w'
set_option maxRecDepth 100000 in
set_option maxHeartbeats 2000000 in
theorem ocfbEncrypt_any {PA : Option Addr} {n pc : Nat} {SA : Option Addr} {sc : Nat} {MA : Option Addr} {mc : Nat} {perm sub mask rand : List Int} {RA : Option Addr} {rc : Nat} {A : Option Addr} {m c : Nat} {vs : List Sl} {xss : List (List Int)} {w : World} (rs : Bool)
    (hr : RightB perm sub n) (hm : mask.length = n) (rp : Rb w PA perm) (rsu : Rb w SA sub) (rm : Rb w MA mask) (bs : Byt sub) (bm : Byt mask) (h2 : 2 ≤ n) (rr : Rb w RA rand) (hrl : n = rand.length) (br : Byt rand)
    (hmx : m = vs.length) (hrr : Rrs w A vs xss) (hA : ∀ ad, A = some ad → ad.block < w.heap.size) (hp : ∀ j (h : j < vs.length) (h' : j < xss.length), Pz (fun _ => True) w vs[j] xss[j])
    (hby : ∀ xs ∈ xss, Byt xs) (hlen : xss.length ≤ 4096) (hl : ∀ xs ∈ xss, xs.length ≤ 140737488351232) :
    Calls Try.prog 22 #[blkV PA n pc SA 256 sc MA n mc, .slice RA n rc, .bool rs, .slice A m c] w (OcfbOk w (ofPre (encL perm sub mask) n rand) (outsE (encL perm sub mask) n (ofSt (encL perm sub mask) n (ofPre (encL perm sub mask) n rand) rs) xss)) := by
  have HR := As.mk hr
  have HP : As (n = perm.length) := ⟨hr.2.2.1.1.symm⟩
  have HS : As (256 = sub.length) := ⟨hr.2.2.2.1.symm⟩
  have HM := As.mk hm
  have HBY := As.mk (And.intro bs (And.intro bm br))
  have RP := As.mk rp
  have RS := As.mk rsu
  have RM := As.mk rm
  have RR := As.mk rr
  have HRL := As.mk hrl
  have HMX := As.mk hmx
  have RO := As.mk hrr
  have HA := As.mk hA
  have HPZ := As.mk hp
  have HPB := As.mk hby
  have HLEN := As.mk hlen
  have HPL := As.mk hl
  have n32 : n ≤ 32 := hr.2.1
  have i2 : ¬ (n : Int) < 2 := by omega
  clear hr hm bs bm br rp rsu rm rr hrl hmx hrr hA hp hby hlen hl
  unfold blkV
  obtain ⟨w0, hw0⟩ : ∃ w0, w0 = w.alloc (.cells #[.slice PA n pc, .slice SA 256 sc, .slice MA n mc] 24) := ⟨_, rfl⟩
  have C0 : As (Chg NoB w w0) := ⟨by rw [hw0]; exact (Chg.refl NoB w).alloc _⟩
  have B0 : As (Blk w0 w.heap.size 24 [.slice PA n pc, .slice SA 256 sc, .slice MA n mc]) := ⟨by rw [hw0]; exact Blk.new _ _ _⟩
  go_enter Try.func22, Try.ntmps22
  go_upto_region 1 with fail
  rw [← hw0]
  have x0 := B0.out.cell 0
  have x1 := B0.out.cell 1
  have x2 := B0.out.cell 2
  simp only [List.getElem?_cons_zero, List.getElem?_cons_succ] at x0 x1 x2
  clear hw0
  go_wp2_with (first
    | (with_reducible refine (blockRight_yes PA n pc SA 256 sc MA n mc perm sub w0 HP.out HS.out (RP.out.keep C0.out) (RS.out.keep C0.out) HR.out).mono ?_
       rintro e1 w1 ⟨rfl, hc1⟩
       have C1 := As.mk (C0.out.trans hc1 (fun _ _ e => e))
       have B1 := As.mk (B0.out.chg hc1 (fun e => e))
       clear hc1 x0 x1 x2 B0
       have x0 := B1.out.cell 0
       have x1 := B1.out.cell 1
       have x2 := B1.out.cell 2
       simp only [List.getElem?_cons_zero, List.getElem?_cons_succ] at x0 x1 x2)
    | (with_reducible refine (cipherOf_any PA n pc SA sc MA n mc perm sub mask w1 HP.out.symm HS.out.symm HM.out n32 n32 (RP.out.keep C1.out) (RS.out.keep C1.out) (RM.out.keep C1.out) HBY.out.1).mono ?_
       rintro e2 w2 ⟨hc2, lo, hi, B, rfl, hlo, hhi, hcb⟩
       have C2 := As.mk (C1.out.trans hc2 (fun _ _ e => e))
       have CB := As.mk hcb
       have HHI := As.mk hhi
       clear hc2 hlo hhi hcb x0 x1 x2 B1))
  refine (newOcfbE_any rs CB.out HR.out HM.out HBY.out.1 HBY.out.2.1 HHI.out (RR.out.keep C2.out) HBY.out.2.2 HRL.out h2).mono ?_
  rintro e3 w3 ⟨X, F, G, rfl, hof, hXb, hrg, hc3⟩
  have OF3 := As.mk hof
  have HX3 := As.mk hXb
  have RG3 := As.mk hrg
  have C3 := As.mk (C2.out.trans hc3 (fun _ _ e => e))
  have CB3 := As.mk (CB.out.keep hc3)
  have HGL : As (n + 2 = (ofPre (encL perm sub mask) n rand).length) := ⟨(ofPre_length _).symm⟩
  have HC2S := As.mk C2.out.size
  clear hof hXb hrg hc3
  go_wp2_with fail
  refine (own_any (some ⟨G, 0, none⟩) (n + 2) (n + 2) _ w3 HGL.out RG3.out (by rw [← HGL.out]; omega)).mono ?_
  rintro e4 w4 ⟨v4, rfl, ho4, hc4⟩
  have O4 := As.mk (own_lower (base' := w.heap.size) ho4 C3.out.size)
  have C4 := As.mk (C3.out.trans hc4 (fun _ _ e => e))
  have HB4 : As (∀ b, v4.ownBlock = some b → w3.heap.size ≤ b) := ⟨fun b hb => (own_block_lt ho4 b hb).1⟩
  have OF4 := As.mk (OF3.out.chg hc4 (fun e => e) (fun e => e))
  have CB4 := As.mk (CB3.out.keep hc4)
  have HXF : As (hi ≤ X ∧ hi ≤ F ∧ w.heap.size ≤ X ∧ w.heap.size ≤ F ∧ X < w3.heap.size ∧ F < w3.heap.size) := ⟨by
    have h1 := HX3.out; have h3 := (own_blocks OF3.out.2.1).1; have h4 := HHI.out; have h5 := HC2S.out; have h6 := OF3.out.1.lt; have h7 := (own_blocks OF3.out.2.1).2; omega⟩
  clear ho4 hc4
  go_wp2_with fail
  refine (streamedE_any CB4.out HR.out HM.out HBY.out.1 HBY.out.2.1 OF4.out HXF.out.1 HXF.out.2.1 HMX.out (RO.out.keep C4.out) (fun ad e => by have := HA.out ad e; have := HXF.out; omega) (fun j h h' => (((HPZ.out j h h').mono (K' := fun b => b < w.heap.size) (fun b hb _ => hb)).chg C4.out (fun _ _ _ e => e)).mono (fun b _ h => by have := HXF.out; omega)) HPB.out HLEN.out HPL.out).mono ?_
  rintro e5 w5 ⟨v5, rfl, hrw, hc5⟩
  have RW5 := As.mk hrw
  have HC5 := As.mk hc5
  clear hrw hc5
  go_wp2_with fail
  go_ret3
  refine ⟨v4, v5, rfl, own_chg O4.out HC5.out (fun b hb e => by have := HB4.out b hb; have := HXF.out; omega), (RW5.out.mono (fun b _ h => Nat.le_trans C4.out.size h)).lower C4.out.size, C4.out.trans HC5.out (fun b hb e => by have := HXF.out; omega)⟩
end Go.Proofs.Ytnhnfhdbbebclaa
