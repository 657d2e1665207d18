/- The contract of (*cbcEncrypter).CryptBlocks. -/
import Derived.Test.YthbgpbaneghmdaaCbcN
import Derived.Test.YthbgpbaneghmdaaCbcP
import Derived.Test.YthbgpbaneghmdaaXorD
set_option linter.unusedVariables false
set_option linter.unusedSimpArgs false
namespace Go.Proofs.Ythbgpbaneghmdaa
open Go.RowKit V
theorem xorZ_byt {xs ys : List Int} (h : Byt xs) (h' : Byt ys) : Byt (xorZ xs ys) := by
  intro x hx
  unfold xorZ at hx
  obtain ⟨i, hi, rfl⟩ := List.mem_iff_getElem.1 hx
  rw [List.getElem_zipWith]
  exact bx_range _ _ (h _ (List.getElem_mem _)) (h' _ (List.getElem_mem _))
theorem add_at (D q n : Nat) : (⟨D, q, none⟩ : Addr).add n = ⟨D, q + n, none⟩ := by unfold Addr.add; split <;> simp_all
def lenV : Value → Nat | .slice _ n _ => n | _ => 0
theorem rb_part {w : World} {D : Nat} {xs : List Int} (h : Rb w (some ⟨D, 0, none⟩) xs) (q n : Nat) : Rb w (some ⟨D, q, none⟩) ((xs.drop q).take n) := by
  have h1 := (h.drop_ q).take_ n
  rw [show (some (⟨D, 0, none⟩ : Addr)).map (·.add q) = some ⟨D, q, none⟩ from by simp [add_lit0]] at h1
  exact h1
theorem mul_lt_fit {k m n q r N : Nat} (hq : q = k * n) (hN : N = m * n) (hr : r + q = N) (hp : 0 < r) (hn : 1 ≤ n) : n ≤ r ∧ k < m := by
  have h1 : k < m := by
    rcases Nat.lt_or_ge k m with h | h
    · exact h
    · have := Nat.mul_le_mul_right n h; omega
  have h2 : (k + 1) * n ≤ m * n := Nat.mul_le_mul_right n h1
  rw [Nat.add_mul] at h2
  omega
theorem mul_end {k m n q r N : Nat} (hq : q = k * n) (hN : N = m * n) (hr : r + q = N) (hp : r = 0) (hn : 1 ≤ n) : k = m := by
  have h1 : k * n = m * n := by omega
  exact Nat.eq_of_mul_eq_mul_right (by omega) h1
set_option maxRecDepth 100000 in
set_option maxHeartbeats 4000000 in
theorem crypt_any {w : World} {lo hi B n X V ic m D dc base base2 S : Nat} {perm sub mask ivs zs src : List Int} {sc : Nat} (hC : Cph w lo hi B perm sub mask) (hr : RightB perm sub n) (hm : mask.length = n) (bs : Byt sub) (bm : Byt mask)
    (hX : Cbc w X V base2 ic n B ivs) (hiv : ivs.length = n) (bi : Byt ivs) (HO : Own w base 5 .u8 (.slice (some ⟨D, 0, none⟩) (m * n) dc) zs) (hdc : m * n ≤ dc)
    (rx : Rb w (some ⟨S, 0, none⟩) src) (bx : Byt src) (hsl : src.length = m * n) (hsc : m * n ≤ sc) (hl : m * n ≤ 140737488351232)
    (hDS : S ≠ D) (hDV : V ≠ D) (hDX : X ≠ D) (hDc : D < lo ∨ hi ≤ D) :
    Calls Try.prog 123 #[.pointer (some ⟨X, 0, none⟩), .slice (some ⟨D, 0, none⟩) (m * n) dc, .slice (some ⟨S, 0, none⟩) (m * n) sc] w fun e w' => e = .returned (.tuple #[]) ∧
      Own w' base 5 .u8 (.slice (some ⟨D, 0, none⟩) (m * n) dc) (cbcOut (encL perm sub mask) n src ivs m) ∧ Chg (fun b => b = D ∨ b = V) w w' := by
  obtain ⟨n1, n2, p3, p4⟩ := hr
  have HR : As (RightB perm sub n) := ⟨⟨n1, n2, p3, p4⟩⟩
  obtain ⟨⟨T, tc, hB⟩, hV, hXV, hic⟩ := hX
  have CB := As.mk hC
  have BX := As.mk hB
  have OV := As.mk hV
  have HM := As.mk hm
  have HBY := As.mk (And.intro bs (And.intro bm (And.intro bx bi)))
  have HIV := As.mk hiv
  have RX := As.mk rx
  have HSL := As.mk hsl
  have HD := As.mk (And.intro hDS (And.intro hDV (And.intro hDX hDc)))
  have hzl : m * n = zs.length := own_len HO
  have HZL := As.mk hzl
  have O0 := As.mk HO
  have HE : As (∀ x, (encL perm sub mask x).length = n) := ⟨fun x => by rw [encL_length]; exact hm⟩
  have HEB : As (∀ x, Byt (encL perm sub mask x)) := ⟨fun x => encL_byt x bs bm⟩
  obtain ⟨N, hN⟩ : ∃ N, N = m * n := ⟨_, rfl⟩
  have HN := As.mk hN
  have hnz : ((n : Int) == 0) = false := by simp; omega
  have hrem : ((N : Int).tmod (n : Int)) = 0 := by
    rw [hN]; simp
  have hrem2 : ((N : Int) % (n : Int)) = 0 := by
    rw [hN]; simp
  rw [← hN] at hdc hsc hl hzl O0 HSL HZL ⊢
  clear hC hB hV hm bs bm bx bi hiv rx hsl hDS hDV hDX hDc HO hzl p3 p4 hN
  have x1 := BX.out.cell 1
  have x2 := BX.out.cell 2
  simp only [List.getElem?_cons_zero, List.getElem?_cons_succ] at x1 x2
  go_enter Try.func123, Try.ntmps123
  have na := na_en
  have me := me_en
  go_wp2
  clear x1 x2
  go_loopw [1, 2, 6] (fun d s v wr => ∃ (k q r dr sr ir : Nat) (DA SA : Option Addr) (IA : Addr), As (q = k * n) ∧ As (r + q = N) ∧ As (dr + q = dc ∧ sr + q = sc ∧ n ≤ ir) ∧ d = .slice DA r dr ∧ s = .slice SA r sr ∧ v = .slice (some IA) n ir ∧
    As (0 < r → DA = some ⟨D, q, none⟩) ∧ As (0 < r → SA = some ⟨S, q, none⟩) ∧ As (Rb wr (some IA) (cbcSt (encL perm sub mask) n src ivs k)) ∧ As (Sep D q n IA) ∧
    As (Own wr base 5 .u8 (.slice (some ⟨D, 0, none⟩) N dc) (cbcRow (encL perm sub mask) n src ivs zs k)) ∧ As (Chg (fun b => b = D) w wr)) (fun d _ _ _ => lenV d)
  case atStart =>
    exact ⟨0, 0, N, dc, sc, ic, _, _, ⟨V, 0, none⟩, ⟨by omega⟩, ⟨by omega⟩, ⟨by omega, by omega, hic⟩, rfl, rfl, rfl, ⟨fun _ => rfl⟩, ⟨fun _ => rfl⟩, ⟨own_reads OV.out⟩, ⟨.inl HD.out.2.1⟩, ⟨by rw [cbcRow_zero]; exact O0.out⟩, ⟨Chg.refl _ _⟩⟩
  case round =>
    obtain ⟨k, q, r, dr, sr, ir, DA, SA, IA, HQ, HRr, HCp, rfl, rfl, rfl, HDA, HSA, HIV2, HSEP, HROW, HC⟩ := hrel
    have hbx := BX.out.chg HC.out (fun e => HD.out.2.2.1 e)
    have x0 := hbx.cell 0
    have x1 := hbx.cell 1
    have x2 := hbx.cell 2
    simp only [List.getElem?_cons_zero, List.getElem?_cons_succ] at x0 x1 x2
    clear hbx
    by_cases hr0 : 0 < r
    · obtain ⟨hnr, hkm⟩ := mul_lt_fit HQ.out HN.out HRr.out hr0 n1
      obtain rfl := HDA.out hr0
      obtain rfl := HSA.out hr0
      obtain ⟨r2, hr2⟩ : ∃ r2, r = r2 + n := ⟨r - n, by omega⟩
      have HR2 := As.mk hr2
      have hdr := HCp.out.1
      have hsr := HCp.out.2.1
      have hrq := HRr.out
      have i1 : (0 : Int) < (r : Int) := by omega
      have k1 := cut_to (P := Try.prog) 22 5 Try.underlying22 size8 (some ⟨D, q, none⟩) r dr (n : Int) .i64 n rfl (by omega)
      have k2 := cut_to (P := Try.prog) 22 5 Try.underlying22 size8 (some ⟨S, q, none⟩) r sr (n : Int) .i64 n rfl (by omega)
      obtain ⟨A3, k3, HA3, _⟩ := cut_from (P := Try.prog) 22 5 Try.underlying22 size8 (some ⟨D, q, none⟩) r dr (n : Int) .i64 r2 (dr - n) (by omega) (by omega) (by omega) (by omega)
      obtain ⟨A4, k4, HA4, _⟩ := cut_from (P := Try.prog) 22 5 Try.underlying22 size8 (some ⟨S, q, none⟩) r sr (n : Int) .i64 r2 (sr - n) (by omega) (by omega) (by omega) (by omega)
      have HA34 := As.mk (And.intro HA3 HA4)
      have hstl : (cbcSt (encL perm sub mask) n src ivs k).length = n := cbcSt_length HE.out HIV.out k
      have hpl : ((src.drop q).take n).length = n := by rw [List.length_take, List.length_drop, HSL.out]; omega
      have hxl : (xorZ ((src.drop q).take n) (cbcSt (encL perm sub mask) n src ivs k)).length = n := by rw [xorZ_length, hpl, hstl]; omega
      have HL3 := As.mk (And.intro hstl (And.intro hpl hxl))
      have HRI := As.mk (And.intro hr2 (And.intro hdr (And.intro hsr (And.intro hrq (And.intro hnr hkm)))))
      clear hr2 HA3 HA4 hstl hpl hxl hdr hsr hrq hnr hkm
      go_wp2
      go_still_tail 13, (by kernel_rfl)
      change wpList _ _ _ _ _ (World.drew wr)
      go_wp2_with fail
      obtain ⟨stl, pl, xl⟩ := HL3.out
      obtain ⟨e1, e2, e3, e4, e5, e6⟩ := HRI.out
      have hrowl : (cbcRow (encL perm sub mask) n src ivs zs k).length = N := by rw [cbcRow_length HE.out HIV.out zs k (by rw [← HQ.out, ← HZL.out]; omega), ← HZL.out]
      refine (xorBytes_own (g := D) (off := q) (n := n) (X := ⟨S, q, none⟩) (Y := IA) (xs := (src.drop q).take n) (ys := cbcSt (encL perm sub mask) n src ivs k) (own_keep HROW.out ((Chg.refl NoB wr).drew)) (by omega) (Nat.le_refl n) (by omega)
        ((rb_part ((RX.out.chg HC.out (fun ad e hb h => by injection e with e; subst e; exact HD.out.1 h))) q n).drew) HIV2.out.drew ((HBY.out.2.2.1.drop q).take n) (cbcSt_byt HEB.out HBY.out.2.2.2 k) pl.symm stl.symm (by omega) HCp.out.2.2 (by omega) n1 (.inl HD.out.1) HSEP.out).mono ?_
      rintro e w2 ⟨rfl, ho2, hc2⟩
      have t1 : ((src.drop q).take n).take n = (src.drop q).take n := List.take_of_length_le (by omega)
      have t2 : (cbcSt (encL perm sub mask) n src ivs k).take n = cbcSt (encL perm sub mask) n src ivs k := List.take_of_length_le (by omega)
      rw [t1, t2] at ho2
      clear t1 t2
      have O2 := As.mk ho2
      have C2 : As (Chg (fun b => b = D) w w2) := ⟨HC.out.drew.trans hc2 (fun _ _ e => e)⟩
      have x0' := (BX.out.chg C2.out (fun e => HD.out.2.2.1 e)).cell 0
      have x1' := (BX.out.chg C2.out (fun e => HD.out.2.2.1 e)).cell 1
      simp only [List.getElem?_cons_zero, List.getElem?_cons_succ] at x0' x1'
      clear ho2 hc2 x0 x1 x2 hrowl stl pl xl e1 e2 e3 e4 e5 e6
      go_wp2_with fail
      go_still_tail 18, (by kernel_rfl)
      change wpList _ _ _ _ _ (World.drew w2)
      go_wp2_with fail
      obtain ⟨stl, pl, xl⟩ := HL3.out
      obtain ⟨e1, e2, e3, e4, e5, e6⟩ := HRI.out
      have hrowl : (cbcRow (encL perm sub mask) n src ivs zs k).length = N := by rw [cbcRow_length HE.out HIV.out zs k (by rw [← HQ.out, ← HZL.out]; omega), ← HZL.out]
      have hrd : Rb w2 (some ⟨D, q, none⟩) (xorZ ((src.drop q).take n) (cbcSt (encL perm sub mask) n src ivs k)) := by
        have h := rb_part (own_reads O2.out) q n
        have h2 := splice_read (cbcRow (encL perm sub mask) n src ivs zs k) (xorZ ((src.drop q).take n) (cbcSt (encL perm sub mask) n src ivs k)) q (by rw [hrowl, xl]; omega)
        rw [xl] at h2
        rw [h2] at h
        exact h
      have hxb : Byt (xorZ ((src.drop q).take n) (cbcSt (encL perm sub mask) n src ivs k)) := xorZ_byt ((HBY.out.2.2.1.drop q).take n) (cbcSt_byt HEB.out HBY.out.2.2.2 k)
      refine (encrypt_any (w := w2.drew) (xs := xorZ ((src.drop q).take n) (cbcSt (encL perm sub mask) n src ivs k)) (CB.out.chg C2.out.drew (fun b h1 h2 e => by have := HD.out.2.2.2; omega)) HR.out HM.out HBY.out.1 HBY.out.2.1 (own_keep O2.out ((Chg.refl NoB w2).drew)) (by omega) (by omega) hrd.drew hxb xl.symm (Nat.le_refl n)).mono ?_
      rintro e w3 ⟨rfl, ho3, hc3⟩
      have hstep := cbcRow_step (E := encL perm sub mask) (src := src) HE.out HIV.out zs k (by rw [← HQ.out, ← HZL.out]; omega) (xorZ ((src.drop q).take n) (cbcSt (encL perm sub mask) n src ivs k)) xl
      have hst1 : cbcSt (encL perm sub mask) n src ivs (k + 1) = encL perm sub mask (xorZ ((src.drop q).take n) (cbcSt (encL perm sub mask) n src ivs k)) := by rw [cbcSt, ← HQ.out]
      rw [← HQ.out, hst1] at hstep
      rw [hstep] at ho3
      have O3 := As.mk ho3
      have C3 : As (Chg (fun b => b = D) w w3) := ⟨C2.out.drew.trans hc3 (fun _ _ e => e)⟩
      have R3 : As (Rb w3 (some ⟨D, q, none⟩) (cbcSt (encL perm sub mask) n src ivs (k + 1))) := ⟨by
        have h := rb_part (own_reads O3.out) q n
        have h2 := cbcRow_last (E := encL perm sub mask) (src := src) HE.out HIV.out zs k (by rw [Nat.add_mul, ← HQ.out, ← HZL.out]; omega)
        rw [← HQ.out] at h2
        rw [h2] at h
        exact h⟩
      have x1'' := (BX.out.chg C3.out (fun e => HD.out.2.2.1 e)).cell 1
      simp only [List.getElem?_cons_zero, List.getElem?_cons_succ] at x1''
      clear ho3 hc3 x0' x1' hrowl stl pl xl e1 e2 e3 e4 e5 e6 hrd hxb hstep hst1
      go_wp2_with fail
      go_roundw
      case rel =>
        obtain ⟨e1, e2, e3, e4, e5, e6⟩ := HRI.out
        refine ⟨k + 1, q + n, r2, dr - n, sr - n, dr, A3, A4, ⟨D, q, none⟩, ⟨by rw [Nat.add_mul, ← HQ.out]; omega⟩, ⟨by omega⟩, ⟨by omega, by omega, by omega⟩, rfl, rfl, rfl, ⟨fun h => ?_⟩, ⟨fun h => ?_⟩, R3, ⟨.inr (.inr ⟨rfl, .inl (Nat.le_refl _)⟩)⟩, O3, C3⟩
        · rw [HA34.out.1 h, Int.toNat_natCast, Option.map_some, add_at]
        · rw [HA34.out.2 h, Int.toNat_natCast, Option.map_some, add_at]
      case measure =>
        obtain ⟨e1, e2, e3, e4, e5, e6⟩ := HRI.out
        simp [lenV]
        omega
    · have hr1 : r = 0 := by omega
      subst hr1
      have hkm := mul_end HQ.out HN.out HRr.out rfl n1
      subst hkm
      have OVr := As.mk (own_chg OV.out HC.out (fun b hb e => by injection hb with hb; subst hb; exact HD.out.2.1 e))
      have hstl := As.mk (cbcSt_length (src := src) HE.out HIV.out k)
      go_wp2_with ((with_reducible refine gate (N := 85) rfl ?_); refine wpList_copy_rk (et := 5) rfl _ _ 22 22 rfl base2 5 .u8 Try.underlying22 size8 V ic ivs ?ho (some ⟨V, 0, none⟩) 0 n ic ?h0 ?hd (fun _ => rfl) (some IA) (cbcSt (encL perm sub mask) n src ivs k) ir ?hs HIV2.out ?_
                   (case ho => rw [HIV.out]; exact OVr.out)
                   (case h0 => rw [HIV.out]; omega)
                   (case hd => rfl)
                   (case hs => rw [hstl.out]; rfl)
                   intro w5 ho5 hg5
                   have HG5 := As.mk hg5
                   clear ho5 hg5)
      go_end0
      have hrow := own_keep HROW.out (Chg.refl NoB wr)
      have hend : cbcRow (encL perm sub mask) n src ivs zs k = cbcOut (encL perm sub mask) n src ivs k := by
        unfold cbcRow
        rw [List.drop_of_length_le (by rw [← HZL.out]; have := HN.out; omega), List.append_nil]
      rw [hend] at hrow
      refine ⟨rfl, own_chg hrow (S := fun b => b = V) ((Chg.refl _ wr).grown HG5.out (fun b _ e => by injection e with e; exact e.symm)) (fun b hb e => by injection hb with hb; subst hb; exact HD.out.2.1 e.symm), ?_⟩
      exact (HC.out.mono (fun b _ e => .inl e)).grown HG5.out (fun b _ e => by injection e with e; exact .inr e.symm)
end Go.Proofs.Ythbgpbaneghmdaa
