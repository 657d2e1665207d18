/- The contracts of (*eax).pad and omac. -/
import Derived.Test.YthbgpbaneghmdaaCbcC
import Derived.Test.YthbgpbaneghmdaaDbl
set_option linter.unusedVariables false
set_option linter.unusedSimpArgs false
namespace Go.Proofs.Ythbgpbaneghmdaa
open Go.RowKit V
/-- The text of whole blocks that OMAC goes through. -/
def padL (xs b p : List Int) : List Int := if xs.length % 16 = 0 then xorR xs b else xorR (xs ++ (List.replicate (16 - xs.length % 16) 0).set 0 128) p
theorem padL_length {xs b p : List Int} (hb : b.length = 16) (hp : p.length = 16) : (padL xs b p).length = (xs.length + 15) / 16 * 16 := by
  unfold padL
  by_cases h : xs.length % 16 = 0
  · rw [if_pos h, xorR_length]; omega
  · rw [if_neg h, xorR_length, List.length_append, List.length_set, List.length_replicate]; omega
theorem padL_byt {xs b p : List Int} (hx : Byt xs) (hb : Byt b) (hp : Byt p) : Byt (padL xs b p) := by
  unfold padL
  split
  · exact xorR_byt hx hb
  · exact xorR_byt (hx.append (set_byt (fun x h => by rw [List.eq_of_mem_replicate h]; omega) _ (by omega))) hp
/-- An eax in block E. -/
def Eax (w : World) (E B : Nat) (t n : Int) : Prop := Blk w E 88 [cphV B, .int .i64 t, .int .i64 n]
set_option maxRecDepth 100000 in
set_option maxHeartbeats 2000000 in
theorem pad_any {w : World} {lo hi B E base g n c : Nat} {tg nn : Int} {perm sub mask xs bb pp : List Int} (hC : Cph w lo hi B perm sub mask) (hm : mask.length = 16) (hE : Eax w E B tg nn)
    (HO : Own w base 5 .u8 (.slice (some ⟨g, 0, none⟩) n c) xs) (bx : Byt xs) (h1 : 1 ≤ n) (hn : n = xs.length) (hl : n ≤ 8589934592) (hbase : base ≤ w.heap.size)
    (BA PA : Addr) (bc pc : Nat) (rb : Rb w (some BA) bb) (rp : Rb w (some PA) pp) (hbb : bb.length = 16) (hpp : pp.length = 16) (b1 : Byt bb) (b2 : Byt pp) (hPg : PA.block ≠ g) :
    Calls Try.prog 69 #[.pointer (some ⟨E, 0, none⟩), .slice (some ⟨g, 0, none⟩) n c, .slice (some BA) 16 bc, .slice (some PA) 16 pc] w (Gives (fun b => b = g) w (padL xs bb pp)) := by
  have CB := As.mk hC
  have HM := As.mk hm
  have HEX := As.mk hE
  have HOW := As.mk HO
  have BX := As.mk bx
  have HN := As.mk hn
  have RB := As.mk rb
  have RP := As.mk rp
  have HB := As.mk (And.intro hbb (And.intro hpp (And.intro b1 b2)))
  have HBA := As.mk hbase
  have HPG := As.mk hPg
  have na := na_bs
  have me := me_bs
  have x0 := hE.cell 0
  simp only [List.getElem?_cons_zero, List.getElem?_cons_succ] at x0
  have i0 : ((n : Int) != 0) = true := by simp; omega
  have i1 : ((16 : Int) == 0) = false := rfl
  by_cases hmod : n % 16 = 0
  · have hr : ((n : Int).tmod 16) = 0 := by rw [show (16 : Int) = ((16 : Nat) : Int) from rfl, ← Int.ofNat_tmod, hmod]; rfl
    have hr2 : ((n : Int) % 16) = 0 := by omega
    have HP : As (padL xs bb pp = xorR xs bb) := ⟨by unfold padL; rw [← hn, if_pos hmod]⟩
    clear hC hm hE HO bx hn rb rp hbb hpp b1 b2 hbase hPg hmod
    go_enter Try.func69, Try.ntmps69
    go_wp2_with fail
    refine (blockSize_any CB.out HM.out).mono ?_
    rintro e1 w1 ⟨rfl, rfl⟩
    go_wp2_with fail
    refine (rightXor_any (some ⟨g, 0, none⟩) n c xs (some BA) 16 bc bb w1 HN.out HB.out.1.symm (by omega) (own_reads HOW.out) RB.out BX.out HB.out.2.2.1 h1 (by omega)).mono ?_
    rintro e2 w2 ⟨v2, rfl, ho2, hc2⟩
    rw [← HP.out] at ho2
    have O2 := As.mk ho2
    have C2 := As.mk hc2
    clear ho2 hc2
    go_wp2_with fail
    go_ret
    exact ⟨v2, rfl, O2.out, C2.out.mono (fun _ _ e => e.elim)⟩
  · obtain ⟨r, hr⟩ : ∃ r, r = n % 16 := ⟨_, rfl⟩
    have hr1 : 1 ≤ r := by omega
    have hr15 : r ≤ 15 := by omega
    have hrem : ((n : Int).tmod 16) = (r : Int) := by rw [show (16 : Int) = ((16 : Nat) : Int) from rfl, ← Int.ofNat_tmod, hr]
    have hrem2 : ((n : Int) % 16) = (r : Int) := by omega
    have hreq : ((r : Int) == 0) = false := by simp; omega
    obtain ⟨s, hs⟩ : ∃ s, s = 16 - r := ⟨_, rfl⟩
    have hs1 : 1 ≤ s := by omega
    have hs15 : s ≤ 15 := by omega
    have hsub : (16 : Int) - (r : Int) = (s : Int) := by omega
    have HP : As (padL xs bb pp = xorR (xs ++ (List.replicate s 0).set 0 128) pp) := ⟨by unfold padL; rw [← hn, if_neg hmod, hs, hr]⟩
    have HLS : As (((List.replicate s (0 : Int)).set 0 128).length = s) := ⟨by rw [List.length_set, List.length_replicate]⟩
    clear hC hm hE HO bx hn rb rp hbb hpp b1 b2 hbase hPg hmod hr hs
    go_enter Try.func69, Try.ntmps69
    go_wp2_with fail
    refine (blockSize_any CB.out HM.out).mono ?_
    rintro e1 w1 ⟨rfl, rfl⟩
    go_wp2_with (first
      | ((with_reducible refine gate (N := 36) rfl ?_); refine wpList_make_k rfl _ 22 rfl 5 .u8 1 Try.underlying22 info8 (by decide) s _ rfl rfl (by omega) ?_
         intro w2 g2 HG2 ho2 hc2 hz2
         have O2 := As.mk ho2
         have C2 := As.mk hc2
         obtain ⟨f0, f1⟩ := own_at ho2 0 (by rw [List.length_replicate]; omega)
         have hset := own_set ho2 0 128
         have hset2 : Own (w2.setCell ⟨g2, 0, none⟩ (.int .u8 128)) w1.heap.size 5 .u8 (.slice (some ⟨g2, 0, none⟩) s s) ((List.replicate s 0).set 0 128) := hset
         have S2 := As.mk hset2
         have C3 : As (Chg NoB w1 (w2.setCell ⟨g2, 0, none⟩ (.int .u8 128))) := ⟨hc2.setCell (p := ⟨g2, 0, none⟩) _ (fun h => by exfalso; have h1 : g2 < w1.heap.size := h; have := HG2.out; omega)⟩
         clear ho2 hc2 hz2 hset hset2)
      | (at_builtin; refine wpList_append_rk rfl _ _ 22 rfl 5 .u8 1 Try.underlying22 info8 (by decide) _ base xs ((List.replicate s 0).set 0 128) (some ⟨g2, 0, none⟩) s rfl ?hx (own_keep HOW.out C3.out) (own_reads S2.out) (Nat.le_trans HBA.out C3.out.size) (by rw [HLS.out]; have := HN.out; omega) ?_
         (case hx => rw [HLS.out]; rfl)
         intro v4 w4 ho4 hg4 hb4
         have O4 := As.mk ho4
         have G4 := As.mk hg4
         have B4 := As.mk hb4
         clear ho4 hg4 hb4))
    have hpos : 0 < (xs ++ (List.replicate s (0 : Int)).set 0 128).length := by rw [List.length_append, HLS.out]; omega
    obtain ⟨g5, c5, hv5, hl5, _, hg5⟩ := own_form_pos O4.out hpos
    have hlen : (xs ++ (List.replicate s (0 : Int)).set 0 128).length = n + s := by rw [List.length_append, HLS.out, ← HN.out]
    rw [hlen] at hv5 hl5
    subst hv5
    have HLEN := As.mk hlen
    have C4 : As (Chg (fun b => b = g) w1 w4) := ⟨(C3.out.mono (fun _ _ e => e.elim)).grown G4.out (fun b hb e => by injection e with e; exact e.symm)⟩
    have RP4 : As (Rb w4 (some PA) pp) := ⟨RP.out.chg C4.out (fun ad e hb h => by injection e with e; subst e; exact HPG.out h)⟩
    clear hpos hlen hl5 hg5 G4 B4 C3 S2 O2 C2
    have hbyt : Byt (xs ++ (List.replicate s (0 : Int)).set 0 128) := BX.out.append (set_byt (fun x h => by rw [List.eq_of_mem_replicate h]; omega) _ (by omega))
    have HBYT := As.mk hbyt
    clear hbyt
    go_wp2_with fail
    refine (rightXor_any (some ⟨g5, 0, none⟩) (n + s) c5 (xs ++ (List.replicate s 0).set 0 128) (some PA) 16 pc pp w4 HLEN.out.symm HB.out.2.1.symm (by omega) (own_reads O4.out) RP4.out HBYT.out HB.out.2.2.2 (by omega) (by omega)).mono ?_
    rintro e6 w6 ⟨v6, rfl, ho6, hc6⟩
    rw [← HP.out] at ho6
    have O6 := As.mk (own_lower (base' := w1.heap.size) ho6 C4.out.size)
    have C6 : As (Chg (fun b => b = g) w1 w6) := ⟨C4.out.trans hc6 (fun _ _ e => e.elim)⟩
    clear ho6 hc6
    go_wp2_with fail
    go_ret
    exact ⟨v6, rfl, O6.out, C6.out⟩
end Go.Proofs.Ythbgpbaneghmdaa
