/- The contracts of (*impl.block).BlockSize and Encrypt. -/
import Derived.Test.YtlpningplmbnhaaDoorCph
set_option linter.unusedVariables false
set_option linter.unusedSimpArgs false
namespace Go.Proofs.YtlpningplmbnhaaDoor
open Go.RowKit V
theorem blockSize_any {w : World} {lo hi B n : Nat} {perm sub mask : List Int} (h : Cph w lo hi B perm sub mask) (hm : mask.length = n) :
    Calls Tryd.prog 55 #[.pointer (some ⟨B, 0, none⟩)] w fun e w' => e = .returned (.int .i64 n) ∧ w' = w := by
  obtain ⟨⟨PA, pc, SA, sc, MA, mc, bk, hb, h1, h2, h3⟩, h4, h5⟩ := h
  rw [hm] at hb
  have x2 := hb.cell 2
  simp only [List.getElem?_cons_zero, List.getElem?_cons_succ] at x2
  clear hb h1 h2 h3
  go_enter Tryd.func55, Tryd.ntmps55
  go_wp2
  go_ret
  exact ⟨rfl, rfl⟩
/-- The bytes of y after k rounds. -/
def encAt (perm sub mask xs : List Int) (k : Nat) : List Int := tab 32 fun i => if i < k then Go.bits .xor .u8 (sub.getD (xs.getD (perm.getD i 0).toNat 0).toNat 0) (mask.getD i 0) else 0
theorem encAt_step (perm sub mask xs : List Int) (k : Nat) (hk : k < 32) : (encAt perm sub mask xs k).set k (Go.bits .xor .u8 (sub.getD (xs.getD (perm.getD k 0).toNat 0).toNat 0) (mask.getD k 0)) = encAt perm sub mask xs (k + 1) := by
  unfold encAt
  rw [tab_set]
  refine tab_congr fun j hj => ?_
  by_cases e : j = k
  · subst e; rw [if_pos rfl, if_pos (by omega)]
  · rw [if_neg e]
    by_cases h3 : j < k
    · rw [if_pos h3, if_pos (by omega)]
    · rw [if_neg h3, if_neg (by omega)]
theorem encAt_zero (perm sub mask xs : List Int) : encAt perm sub mask xs 0 = List.replicate 32 0 := by
  rw [replicate_tab]
  exact tab_congr fun j _ => if_neg (by omega)
theorem encAt_take (perm sub mask xs : List Int) (n : Nat) (hn : n ≤ 32) (hm : mask.length = n) : (encAt perm sub mask xs n).take n = encL perm sub mask xs := by
  unfold encAt encL
  rw [tab_take _ _ _ hn, hm]
  exact tab_congr fun i hi => if_pos hi
set_option maxRecDepth 100000 in
set_option maxHeartbeats 2000000 in
theorem encrypt_any {w : World} {lo hi B n g off N cap base dn dc : Nat} {perm sub mask zs xs : List Int} {SA : Option Addr} {sn sc : Nat} (hC : Cph w lo hi B perm sub mask) (hr : RightB perm sub n) (hm : mask.length = n) (bs : Byt sub) (bm : Byt mask)
    (HO : Own w base 5 .u8 (.slice (some ⟨g, 0, none⟩) N cap) zs) (hoff : off + n ≤ N) (hdc : n ≤ dc) (rx : Rb w SA xs) (bx : Byt xs) (hsn : sn = xs.length) (hns : n ≤ sn) :
    Calls Tryd.prog 57 #[.pointer (some ⟨B, 0, none⟩), .slice (some ⟨g, off, none⟩) dn dc, .slice SA sn sc] w fun e w' => e = .returned (.tuple #[]) ∧ Own w' base 5 .u8 (.slice (some ⟨g, 0, none⟩) N cap) (splice zs off (encL perm sub mask xs)) ∧ Chg (fun b => b = g) w w' := by
  obtain ⟨⟨PA, pc, SA2, sc2, MA, mc, bk, hb, r1, r2, r3⟩, h4, h5⟩ := hC
  obtain ⟨p1, p2, p3, p4⟩ := hr
  have hpl := p3.1
  have hsl := p4.1
  have hNz : N = zs.length := own_len HO
  subst hNz
  rw [hpl, hsl, hm] at hb
  have HPE := As.mk p3
  have HPL := As.mk hpl
  have HSL := As.mk hsl
  have HM := As.mk hm
  have HBY := As.mk (And.intro bs (And.intro bm bx))
  have HOW := As.mk HO
  have RX := As.mk rx
  have HN := As.mk hsn
  have HB := As.mk hb
  have R1 := As.mk r1.1
  have R2 := As.mk r2.1
  have R3 := As.mk r3.1
  clear hb r1 r2 r3 p3 p4 hpl hsl hm bs bm bx HO rx hsn
  go_enter Tryd.func57, Tryd.ntmps57
  go_upto_region 1 with fail
  have ho0 := own_lit w w.heap.size 76 .u8 (List.replicate 32 0) (Nat.le_refl _) (by simp [maxLen])
  rw [List.length_replicate] at ho0
  have C0 := As.mk ((Chg.refl NoB w).alloc (.cells (nums .u8 (List.replicate 32 0)).toArray 76))
  change Code.wp _ _ _ _ (w.alloc (.cells (nums .u8 (List.replicate 32 0)).toArray 76))
  obtain ⟨y, hy⟩ : ∃ y, y = w.heap.size := ⟨_, rfl⟩
  have HY := As.mk hy
  rw [← hy] at ho0 ⊢
  have O0 := As.mk ho0
  clear hy ho0
  generalize w.alloc (.cells (nums .u8 (List.replicate 32 0)).toArray 76) = w0 at *
  have O1 : As (Own w0 y 76 .u8 (.slice (some ⟨y, 0, none⟩) 32 32) (encAt perm sub mask xs 0)) := ⟨by rw [encAt_zero]; exact O0.out⟩
  clear O0
  have x0 := (HB.out.chg C0.out (fun e => e)).cell 0
  simp only [List.getElem?_cons_zero, List.getElem?_cons_succ] at x0
  go_wp2
  go_loopw [15] (fun i wr => ∃ k : Nat, k ≤ n ∧ i = .int .i64 k ∧ As (Own wr y 76 .u8 (.slice (some ⟨y, 0, none⟩) 32 32) (encAt perm sub mask xs k)) ∧ As (Chg NoB w wr)) (fun i _ => n - (intOf i).toNat)
  case atStart => exact ⟨0, Nat.zero_le _, rfl, O1, C0⟩
  case round =>
    clear x0 O1 C0
    obtain ⟨k, hk, rfl, HOY, HC⟩ := hrel
    have hBr := HB.out.chg HC.out (fun e => e)
    have x0 := hBr.cell 0
    have x1 := hBr.cell 1
    have x2 := hBr.cell 2
    simp only [List.getElem?_cons_zero, List.getElem?_cons_succ] at x0 x1 x2
    by_cases hlt : k < n
    · obtain ⟨ap, hap, c1⟩ := (R1.out.keep HC.out).at_ (k : Int) (by omega) (by have := HPL.out; omega)
      rw [Int.toNat_natCast, rd_nat] at c1
      obtain ⟨q0, q1⟩ := perms_at HPE.out k hlt
      obtain ⟨q, hq⟩ := Int.eq_ofNat_of_zero_le q0
      rw [hq] at c1 q1
      obtain ⟨ax, hax, c2⟩ := (RX.out.keep HC.out).at_ (q : Int) (by omega) (by have := HN.out; omega)
      rw [Int.toNat_natCast, rd_nat] at c2
      obtain ⟨v0, v1⟩ := HBY.out.2.2.getD q
      obtain ⟨v, hv⟩ := Int.eq_ofNat_of_zero_le v0
      rw [hv] at c2 v1
      obtain ⟨as_, has, c3⟩ := (R2.out.keep HC.out).at_ (v : Int) (by omega) (by have := HSL.out; omega)
      rw [Int.toNat_natCast, rd_nat] at c3
      obtain ⟨am, ham, c4⟩ := (R3.out.keep HC.out).at_ (k : Int) (by omega) (by have := HM.out; omega)
      rw [Int.toNat_natCast, rd_nat] at c4
      have hset := own_set HOY.out k (Go.bits .xor .u8 (sub.getD v 0) (mask.getD k 0))
      have hst := encAt_step perm sub mask xs k (by omega)
      rw [hq, Int.toNat_natCast, hv, Int.toNat_natCast] at hst
      rw [hst] at hset
      have HSET := As.mk hset
      obtain ⟨f0, f1⟩ := own_at HOY.out k (by rw [show (encAt perm sub mask xs k).length = 32 from tab_length _ _]; omega)
      obtain ⟨s0, s1⟩ := HBY.out.1.getD v
      obtain ⟨m0, m1⟩ := HBY.out.2.1.getD k
      generalize sub.getD v 0 = sv at *
      generalize mask.getD k 0 = mv at *
      rw [hap] at x0
      rw [has] at x1
      rw [ham] at x2
      subst hax
      subst hap
      have i1 : k < 32 := by omega
      have i2 : (k : Int) < 32 := by omega
      have i3 : (q : Int) < (sn : Int) := by omega
      have i4 : v < 256 := by omega
      have i5 : (v : Int) < 256 := by omega
      have i6 : (k : Int) < (n : Int) := by omega
      have i7 : q < sn := by omega
      clear q0 hq v0 hv hset hst hBr
      go_wp2
      go_still_tail 22, (by kernel_rfl)
      change wpList _ _ _ _ _ (World.drew wr)
      go_wp2
      go_roundw
      case rel => exact ⟨k + 1, by omega, by go_num, HSET, ⟨(HC.out.setCell (p := ⟨y, k, none⟩) _ (fun h => by exfalso; have h1 : y < w.heap.size := h; have := HY.out; omega)).drew⟩⟩
      case measure => simp [intOf]; omega
    · obtain rfl : k = n := by omega
      go_wp2
      have hcut := cut_to (P := Tryd.prog) 22 5 Tryd.underlying22 size8 (some ⟨g, off, none⟩) dn dc (k : Int) .i64 k rfl (by omega)
      go_still_tail 9, (by kernel_rfl)
      change wpList _ _ _ _ _ (World.drew wr)
      have HR : As (Rb wr.drew (some ⟨y, 0, none⟩) (encAt perm sub mask xs k)) := ⟨(own_reads HOY.out).drew⟩
      have HOW2 := As.mk (own_keep HOW.out HC.out.drew)
      have HL32 : As ((encAt perm sub mask xs k).length = 32) := ⟨tab_length _ _⟩
      clear hBr x0 x1 x2
      go_wp2_with ((with_reducible refine gate (N := 52) rfl ?_); refine wpList_copy_rk rfl _ _ 22 22 rfl base 5 .u8 Tryd.underlying22 size8 g cap zs HOW2.out (some ⟨g, off, none⟩) off k dc hoff ?hd (fun _ => rfl) (some ⟨y, 0, none⟩) (encAt perm sub mask xs k) 32 ?hs HR.out ?_
                   (case hd => rfl)
                   (case hs => rw [HL32.out]; rfl)
                   intro w5 ho5 hg5
                   have HO5 := As.mk ho5
                   have HG5 := As.mk hg5
                   clear ho5 hg5)
      go_end0
      refine ⟨rfl, ?_, (HC.out.mono (fun _ _ e => e.elim)).drew.grown HG5.out (fun b _ e => by injection e with e; exact e.symm)⟩
      rw [← encAt_take perm sub mask xs k p2 HM.out]
      exact HO5.out
end Go.Proofs.YtlpningplmbnhaaDoor
