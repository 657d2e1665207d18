/- The walk of (*ocb).hash. -/
import Derived.Test.YtlpningplmbnhaaDoorOcH
set_option linter.unusedVariables false
set_option linter.unusedSimpArgs false
namespace Go.Proofs.YtlpningplmbnhaaDoor
open Go.RowKit V
/-- What hash hands back. -/
def HashTo (K : Nat → Prop) (OB : Nat) (w : World) (xs : List Int) (e : Ending) (w' : World) : Prop :=
  ∃ v, e = .returned v ∧ Own w' w.heap.size 5 .u8 v xs ∧ Chg (fun b => b = OB ∨ K b) w w'
set_option maxRecDepth 100000 in
set_option maxHeartbeats 4000000 in
theorem hash_any {w : World} {K0 : Nat → Prop} {bs OB B gA lo hi : Nat} {vD : Value} {perm sub mask text : List Int} {TA : Option Addr} {tn tc : Nat}
    (hC : Cph w lo hi B perm sub mask) (hr : RightB perm sub 16) (hm : mask.length = 16) (bsu : Byt sub) (bm : Byt mask)
    (hO : Oc K0 w bs OB B gA vD (lRow perm sub mask 1)) (hA : Rb w (some ⟨gA, 0, none⟩) (lAstL perm sub mask)) (ht : Tab w)
    (rt : Rb w TA text) (htn : tn = text.length) (bt : Byt text) (hl : tn ≤ 4096) (hbs : bs ≤ w.heap.size)
    (k0 : ¬ K0 OB) (k1 : ¬ K0 gA) (k2 : ∀ b, lo ≤ b → b < hi → ¬ K0 b) (k3 : ¬ K0 1) (hoc : hi ≤ OB) (hao : gA ≠ OB) (hto : 1 < OB) :
    Calls Tryd.prog 24 #[.pointer (some ⟨OB, 0, none⟩), .slice TA tn tc] w (HashTo K0 OB w (hashL perm sub mask text)) := by
  have CB := As.mk hC
  have HR := As.mk hr
  have HM := As.mk hm
  have HBY := As.mk (And.intro bsu (And.intro bm bt))
  have HO := As.mk hO
  have HA := As.mk hA
  have HT := As.mk ht
  have RT := As.mk rt
  have HN := As.mk htn
  have HBS := As.mk hbs
  have HK := As.mk (And.intro k0 (And.intro k1 (And.intro k2 (And.intro k3 (And.intro hoc (And.intro hao hto))))))
  have na := na_bs
  have me := me_bs
  have nb := na_en
  have mf := me_en
  have x0 : w.cell? ⟨OB, 0, none⟩ = some (cphV B) := by obtain ⟨v, h, _⟩ := hO; exact h.cell 0
  have HOL : As (OB < w.heap.size ∧ gA < w.heap.size) := ⟨by
    obtain ⟨v, h, _⟩ := hO
    obtain ⟨ad, e, hb, _⟩ := hA.2 (by rw [lAstL_length hm]; omega)
    injection e with e; subst e
    exact ⟨h.lt, hb⟩⟩
  obtain ⟨m, hmm⟩ : ∃ m, m = tn / 16 := ⟨_, rfl⟩
  have hq1 : (tn : Int).tdiv 16 = (m : Int) := by rw [hmm, show (16 : Int) = ((16 : Nat) : Int) from rfl, ← Int.ofNat_tdiv]
  have hq2 : (tn : Int) / 16 = (m : Int) := by omega
  have HMM := As.mk hmm
  have hm256 : m ≤ 256 := by omega
  clear hC hr hm bsu bm bt hO hA ht rt htn hbs k0 k1 k2 k3 hoc hao hto hmm
  go_enter Tryd.func24, Tryd.ntmps24
  go_wp2_with (first
    | ((with_reducible refine gate (N := 17) rfl ?_); refine wpList_make_k rfl _ 22 rfl 5 .u8 1 Tryd.underlying22 info8 (by decide) tn _ rfl rfl (by omega) ?_
       intro w2 gT HGT ho2 hc2 hz2
       have O2 := As.mk ho2
       have C2 := As.mk hc2
       have Z2 := As.mk hz2
       clear ho2 hc2 hz2)
    | ((with_reducible refine gate (N := 20) rfl ?_); refine wpList_copy_rk (et := 5) rfl _ _ 22 22 rfl w.heap.size 5 .u8 Tryd.underlying22 size8 gT tn (List.replicate tn 0) ?ho (some ⟨gT, 0, none⟩) 0 tn tn ?h0 ?hd (fun _ => rfl) TA text tc ?hs (RT.out.keep C2.out) ?_
       (case ho => rw [List.length_replicate]; exact O2.out)
       (case h0 => rw [List.length_replicate]; omega)
       (case hd => rfl)
       (case hs => rw [← HN.out]; rfl)
       intro w3 ho3 hg3
       have hsp : splice (List.replicate tn (0 : Int)) 0 (text.take tn) = text := by
         have := HN.out
         rw [List.take_of_length_le (by omega)]
         exact splice_all (by rw [List.length_replicate]; omega)
       rw [hsp, List.length_replicate] at ho3
       have O3 := As.mk ho3
       have C3 : As (Chg NoB w w3) := ⟨C2.out.grown hg3 (fun b hb e => by injection e with e; have := own_blocks O2.out; omega)⟩
       have x3 : w3.cell? ⟨OB, 0, none⟩ = some (cphV B) := (C3.out.cell (p := ⟨OB, 0, none⟩) HOL.out.1 (fun e => e)).trans x0
       clear ho3 hg3 hsp))
  refine (blockSize_any (CB.out.keep C3.out) HM.out).mono ?_
  rintro e4 w4 ⟨rfl, rfl⟩
  go_wp2_with (first
    | ((with_reducible refine gate (N := 27) rfl ?_); refine wpList_make_k rfl _ 22 rfl 5 .u8 1 Tryd.underlying22 info8 (by decide) 16 _ rfl rfl (by omega) ?_
       intro w5 gS HGS ho5 hc5 hz5
       have O5 := As.mk ho5
       have C5 := As.mk hc5
       have Z5 := As.mk hz5
       clear ho5 hc5 hz5)
    | ((with_reducible refine gate (N := 29) rfl ?_); refine wpList_make_k rfl _ 22 rfl 5 .u8 1 Tryd.underlying22 info8 (by decide) 16 _ rfl rfl (by omega) ?_
       intro w6 gO HGO ho6 hc6 hz6
       have O6 := As.mk ho6
       have C6 := As.mk hc6
       have Z6 := As.mk hz6
       clear ho6 hc6 hz6))
  have HORD : As (gT = w.heap.size ∧ gT < gS ∧ gS < gO ∧ gO < w6.heap.size ∧ w.heap.size ≤ w4.heap.size) := ⟨by
    have h1 := HGT.out; have h2 := (own_blocks O3.out).2; have h3 := HGS.out; have h4 := (own_blocks O5.out).2; have h5 := HGO.out; have h6 := (own_blocks O6.out).2; have h7 := C3.out.size
    omega⟩
  obtain ⟨K, hKd⟩ : ∃ K : Nat → Prop, K = fun b => (K0 b ∧ b < w.heap.size) ∨ w6.heap.size ≤ b := ⟨_, rfl⟩
  have HKD := As.mk hKd
  have AP : As (Hap K OB gA lo hi gT gS gO) := ⟨by
    have h := HORD.out
    have ho := HOL.out
    obtain ⟨k0, k1, k2, k3, hoc, hao, hto⟩ := HK.out
    have hch := CB.out.hi_le
    subst hKd
    exact ⟨fun k => by rcases k with k | k; exact k0 k.1; omega, fun k => by rcases k with k | k; exact k1 k.1; omega, fun b h1 h2 k => by rcases k with k | k; exact k2 b h1 h2 k.1; omega, fun k => by rcases k with k | k; exact k3 k.1; omega,
      fun k => by rcases k with k | k <;> omega, fun k => by rcases k with k | k <;> omega, fun k => by rcases k with k | k <;> omega, by omega, by omega, by omega, by omega, by omega, by omega, by omega, by omega, by omega, by omega, by omega, by omega, hoc, hao, hto⟩⟩
  have C36 : As (Chg NoB w w6) := ⟨(C3.out.trans C5.out (fun _ _ e => e)).trans C6.out (fun _ _ e => e)⟩
  have OC6 : As (Oc K w6 bs OB B gA vD (lRow perm sub mask 1)) := ⟨((HO.out.mono (K' := K) (fun b hb k => by rw [HKD.out]; exact .inl ⟨k, hb⟩)).keep C36.out)⟩
  have ST6 : As (Hst K w6 w6 w.heap.size OB B gA lo hi gT gS gO tn perm sub mask text (sumL16 perm sub mask text 0) (offL perm sub mask 0)) := ⟨{
    ot := own_keep (own_keep O3.out C5.out) C6.out
    os := own_lower (own_keep O5.out C6.out) HORD.out.2.2.2.2
    oo := own_lower O6.out (Nat.le_trans HORD.out.2.2.2.2 C5.out.size)
    cp := CB.out.keep C36.out
    ra := HA.out.keep C36.out
    tb := HT.out.keep C36.out
    ch := Chg.refl _ _ }⟩
  have HKN : As (∀ b, w6.heap.size ≤ b → K b) := ⟨fun b hb => by rw [HKD.out]; exact .inr hb⟩
  have HBS6 : As (bs ≤ w6.heap.size) := ⟨Nat.le_trans HBS.out C36.out.size⟩
  clear O2 C2 Z2 O3 x0 x3 O5 C5 Z5 O6 C6 Z6 hKd HGT HGS HGO HO HA HT CB
  go_loopw [10] (fun iv wr => ∃ (i q : Nat) (zs : List Int), i ≤ m ∧ iv = .int .i64 i ∧ q ≤ 8 ∧ As (Hst K w6 wr w.heap.size OB B gA lo hi gT gS gO tn perm sub mask zs (sumL16 perm sub mask text i) (offL perm sub mask i)) ∧ As (zs.drop (16 * i) = text.drop (16 * i)) ∧ As (Byt zs) ∧ As (Oc K wr bs OB B gA vD (lRow perm sub mask (q + 1)))) (fun iv _ => m - (intOf iv).toNat)
  case atStart => exact ⟨0, 0, text, Nat.zero_le _, rfl, by omega, ST6, ⟨rfl⟩, ⟨HBY.out.2.2⟩, OC6⟩
  case round =>
    clear ST6 OC6
    obtain ⟨i, q, zs, him, rfl, hq8, ST, ZD, BZ, OC⟩ := hrel
    by_cases hlt : i < m
    · obtain ⟨a, ha⟩ : ∃ a, a = 16 * i := ⟨_, rfl⟩
      obtain ⟨i1, hi1⟩ : ∃ i1, i1 = i + 1 := ⟨_, rfl⟩
      obtain ⟨a2, ha2⟩ : ∃ a2, a2 = a + 16 := ⟨_, rfl⟩
      obtain ⟨d, hd⟩ : ∃ d, d = tn - a := ⟨_, rfl⟩
      have hatn : a + 16 ≤ tn := by have := HMM.out; omega
      have e1 : (16 : Int) * (i : Int) = (a : Int) := by omega
      have e2 : IntKind.i64.wrap (a : Int) = (a : Int) := by simp [IntKind.wrap, IntKind.bits, IntKind.signed]; omega
      have e3 : (i : Int) + 1 = (i1 : Int) := by omega
      have e4 : IntKind.i64.wrap (i1 : Int) = (i1 : Int) := by simp [IntKind.wrap, IntKind.bits, IntKind.signed]; omega
      have e5 : (16 : Int) * (i1 : Int) = (a2 : Int) := by omega
      have e6 : IntKind.i64.wrap (a2 : Int) = (a2 : Int) := by simp [IntKind.wrap, IntKind.bits, IntKind.signed]; omega
      have e7 : IntKind.u64.wrap (i1 : Int) = (i1 : Int) := by simp [IntKind.wrap, IntKind.bits, IntKind.signed]; omega
      obtain ⟨A', hcut, hA', _⟩ := cut_mid (P := Tryd.prog) 22 5 Tryd.underlying22 size8 (some ⟨gT, 0, none⟩) tn tn (a : Int) (a2 : Int) .i64 .i64 16 d (by omega) (by omega) (by omega) (by omega)
      have hA2 := hA' (by omega)
      rw [Int.toNat_natCast, Option.map_some, add_lit0] at hA2
      subst hA2
      have HX := As.mk (And.intro ha (And.intro hi1 (And.intro ha2 (And.intro hd hatn))))
      have hd16 : 16 ≤ d := by omega
      have hi1p : 1 ≤ i1 := by omega
      have hi1m : i1 ≤ 256 := by omega
      have HTZ := As.mk (tz_le i1 hi1p hi1m)
      clear hA' ha hi1 ha2 hd hatn
      go_wp2_with fail
      refine (tz_any i1 wr hi1p hi1m ST.out.tb).mono ?_
      rintro e7 w7 ⟨rfl, rfl⟩
      obtain ⟨t, ht⟩ : ∃ t, t = tz i1 := ⟨_, rfl⟩
      have HT := As.mk ht
      rw [← ht] at HTZ ⊢
      have ht8 := HTZ.out
      clear ht
      obtain ⟨v, hv0, hv1, hv2⟩ := OC.out
      obtain ⟨A0, c0, vs0, hA0, _, _, _, _, _⟩ := hv1.row (by rw [lRow_length]; omega)
      rw [lRow_length] at hA0
      obtain ⟨q1, hq1'⟩ : ∃ q1, q1 = q + 1 := ⟨_, rfl⟩
      rw [← hq1'] at hA0
      subst hA0
      have x5 := hv0.cell 5
      simp only [List.getElem?_cons_zero, List.getElem?_cons_succ] at x5
      have hsub : (q1 : Int) - 1 = (q : Int) := by omega
      clear hv0 hv1 hv2
      go_upto_if 60 with fail
      go_cut [12] (fun s12 wx => s12 = .int .i64 t ∧ ∃ r : Nat, t ≤ r ∧ r ≤ 8 ∧ As (Oc K wx bs OB B gA vD (lRow perm sub mask (r + 1))) ∧ As (Hst K w6 wx w.heap.size OB B gA lo hi gT gS gO tn perm sub mask zs (sumL16 perm sub mask text i) (offL perm sub mask i)))
      case first =>
        by_cases hqt : q < t
        · have hqi : (q : Int) < (t : Int) := by omega
          go_wp2_with fail
          refine (extend_any OC.out (by omega) (by omega) (by omega) (fun b hb => HKN.out b (Nat.le_trans ST.out.ch.size hb)) AP.out.ko (Nat.le_trans HBS6.out ST.out.ch.size)).mono ?_
          rintro e8 w8 ⟨rfl, ho8, hc8⟩
          have OC8 := As.mk ho8
          have ST8 := As.mk (ST.out.masks AP.out hc8)
          clear ho8 hc8
          go_wp2_with fail
          go_meet
          exact ⟨rfl, t, Nat.le_refl _, ht8, OC8, ST8⟩
        · have hqi : ¬ (q : Int) < (t : Int) := by omega
          go_wp2_with fail
          go_meet
          exact ⟨rfl, q, by omega, hq8, OC, ST⟩
      case rest =>
        obtain ⟨rfl, r, htr, hr8, OCc, STc⟩ := hcut
        have HST := As.mk (own_len ST.out.ot)
        clear x5 hsub OC hq8 hq1'
        obtain ⟨v, hv0, hv1, hv2⟩ := OCc.out
        obtain ⟨A0, c1, vs0, hA0, _, hrr, hpz, hg0, _⟩ := hv1.row (by rw [lRow_length]; omega)
        rw [lRow_length] at hA0 hg0
        obtain ⟨gL, rfl, _, _⟩ := hg0 (by omega)
        have hkl : t < vs0.length := by rw [hrr.2.1, lRow_length]; omega
        have hkl2 : t < (lRow perm sub mask (r + 1)).length := by rw [lRow_length]; omega
        obtain ⟨ad, e, hck⟩ := hrr.1.at_ t hkl
        injection e with e
        subst e
        have hpk := hpz t hkl hkl2
        rw [lRow_at] at hpk
        generalize vs0[t] = p at *
        obtain ⟨PA, pn, pc⟩ := p
        have hpn : pn = (lAtL perm sub mask t).length := hpk.1
        rw [lAtL_length] at hpn
        subst hpn
        have HPK := As.mk hpk
        rw [add_lit0] at hck
        have hck2 : wc.cell? ⟨gL, t, none⟩ = some (.slice PA 16 pc) := hck
        obtain ⟨r1, hr1⟩ : ∃ r1, r1 = r + 1 := ⟨_, rfl⟩
        rw [← hr1] at hA0
        subst hA0
        have hti : (t : Int) < (r1 : Int) := by omega
        have x5 := hv0.cell 5
        simp only [List.getElem?_cons_zero, List.getElem?_cons_succ] at x5
        clear hv0 hv1 hv2 hrr hpz hg0 hkl hkl2 hck hpk hr1
        have HLT : As (16 = (lAtL perm sub mask t).length) := ⟨(lAtL_length _ _ _ _).symm⟩
        go_wp2_with fail
        refine (mut_any (off := 0) STc.out.oo (offL_byt _ _ _ _) HPK.out.2.2.1 (lAtL_byt _ _ _ _) HLT.out (by omega) (by omega) (by omega) (fun ad e h => AP.out.kO (by rw [← h]; exact (HPK.out.2.2.2 ad e).1)) (by omega)).mono ?_
        rintro e8 w8 ⟨rfl, ho8, hc8⟩
        have hxo : xorM (offL perm sub mask i) 0 (lAtL perm sub mask t) 16 = offL perm sub mask i1 := by
          have h1 := xorM_all (zs := offL perm sub mask i) (ys := lAtL perm sub mask t) (by rw [lAtL_length, offL_length])
          rw [lAtL_length] at h1
          rw [h1, HT.out, HX.out.2.1]
          rfl
        rw [hxo] at ho8
        have ST8 := As.mk (STc.out.setO AP.out ho8 hc8)
        have OC8 := As.mk (OCc.out.row hc8 (Nat.ne_of_lt AP.out.oO) AP.out.kO)
        have HOL1 : As (16 = (offL perm sub mask i1).length) := ⟨(offL_length _ _ _ _).symm⟩
        clear ho8 hc8 hxo x5 hck2 hti STc OCc
        go_wp2_with fail
        refine (mut_any (off := a) ST8.out.ot BZ.out (own_reads ST8.out.oo) (offL_byt _ _ _ _) HOL1.out HX.out.2.2.2.2 (by omega) (by omega) (fun ad e h => by injection e with e; subst e; exact AP.out.nto h.symm) (by omega)).mono ?_
        rintro e9 w9 ⟨rfl, ho9, hc9⟩
        have ST9 := As.mk (ST8.out.setT AP.out ho9 hc9)
        have OC9 := As.mk (OC8.out.row hc9 (Nat.ne_of_lt AP.out.oT) AP.out.kT)
        clear ho9 hc9 ST8 OC8
        have x0 : w9.cell? ⟨OB, 0, none⟩ = some (cphV B) := by obtain ⟨v, h, _⟩ := OC9.out; exact h.cell 0
        have hwin : Rb w9 (some ⟨gT, a, none⟩) (xorL ((zs.drop a).take 16) (offL perm sub mask i1)) := by
          have h := ((own_reads ST9.out.ot).drop_ a).take_ 16
          rw [Option.map_some, add_lit0, xorM_window HOL1.out.symm (by rw [← own_len ST.out.ot]; exact HX.out.2.2.2.2)] at h
          exact h
        have HWIN := As.mk hwin
        have HZL : As (((zs.drop a).take 16) = chunkL text i) := ⟨by
          have h := ZD.out
          unfold chunkL
          rw [← HX.out.1] at h ⊢
          rw [h]⟩
        rw [HZL.out] at HWIN
        have HCL : As (16 = (xorL (chunkL text i) (offL perm sub mask i1)).length) := ⟨by rw [xorL_length, chunkL_length (by have := HX.out; have := HN.out; omega)]⟩
        have HCB : As (Byt (xorL (chunkL text i) (offL perm sub mask i1))) := ⟨xorL_byt ((HBY.out.2.2.drop _).take _) (offL_byt _ _ _ _)⟩
        clear hwin
        go_wp2_with fail
        refine (encrypt_any (off := a) ST9.out.cp HR.out HM.out HBY.out.1 HBY.out.2.1 ST9.out.ot HX.out.2.2.2.2 hd16 HWIN.out HCB.out HCL.out (by omega)).mono ?_
        rintro e10 w10 ⟨rfl, ho10, hc10⟩
        have ST10 := As.mk (ST9.out.setT AP.out ho10 hc10)
        have OC10 := As.mk (OC9.out.row hc10 (Nat.ne_of_lt AP.out.oT) AP.out.kT)
        have HEL : As ((encL perm sub mask (xorL (chunkL text i) (offL perm sub mask i1))).length = 16) := ⟨by rw [encL_length]; exact HM.out⟩
        have HZZ : As (tn = zs.length) := ⟨own_len ST.out.ot⟩
        have HEB : As (Byt (encL perm sub mask (xorL (chunkL text i) (offL perm sub mask i1)))) := ⟨encL_byt _ HBY.out.1 HBY.out.2.1⟩
        have HW10 : As (Rb w10 (some ⟨gT, a, none⟩) (encL perm sub mask (xorL (chunkL text i) (offL perm sub mask i1)))) := ⟨by
          have h := ((own_reads ST10.out.ot).drop_ a).take_ 16
          rw [Option.map_some, add_lit0, splice_window HEL.out (by rw [xorM_length, ← HZZ.out]; exact HX.out.2.2.2.2)] at h
          exact h⟩
        clear ho10 hc10 ST9 OC9 x0 HWIN
        go_wp2_with fail
        refine (mut_any (off := 0) ST10.out.os (sumL16_byt HBY.out.1 HBY.out.2.1 _ _) HW10.out HEB.out HEL.out.symm (by omega) (by omega) (by omega) (fun ad e h => by injection e with e; subst e; exact AP.out.nts h) (by omega)).mono ?_
        rintro e11 w11 ⟨rfl, ho11, hc11⟩
        have hxs : xorM (sumL16 perm sub mask text i) 0 (encL perm sub mask (xorL (chunkL text i) (offL perm sub mask i1))) 16 = sumL16 perm sub mask text i1 := by
          have h1 := xorM_all (zs := sumL16 perm sub mask text i) (ys := encL perm sub mask (xorL (chunkL text i) (offL perm sub mask i1))) (by rw [HEL.out, sumL16_length])
          rw [HEL.out] at h1
          rw [h1, HX.out.2.1]
          rfl
        rw [hxs] at ho11
        have ST11 := As.mk (ST10.out.setS AP.out ho11 hc11)
        have OC11 := As.mk (OC10.out.row hc11 (Nat.ne_of_lt AP.out.oS) AP.out.kS)
        clear ho11 hc11 hxs ST10 OC10 HW10
        go_wp2_with fail
        go_roundw
        case rel =>
          have hx := HX.out
          refine ⟨i1, r, _, by omega, by first | rfl | go_num, hr8, ST11, ⟨?_⟩, ⟨splice_byt (xorM_byt BZ.out (offL_byt _ _ _ _) _ _) HEB.out _⟩, OC11⟩
          rw [show 16 * i1 = a + 16 by omega, splice_behind HEL.out (by rw [xorM_length, ← HZZ.out]; omega), xorM_behind (Nat.le_refl _)]
          have h := congrArg (List.drop 16) ZD.out
          rw [List.drop_drop, List.drop_drop, ← hx.1] at h
          exact h
        case measure => have hx := HX.out; simp [intOf]; omega
    · obtain rfl : i = m := by omega
      have CB1 : As (Chg (fun b => b = OB ∨ K0 b) w wr) := ⟨(C36.out.mono (fun _ _ e => e.elim)).trans ST.out.ch (fun b hb e => by
        have ho := HORD.out
        rcases e with (e | e) | e
        · exact .inl e
        · rw [HKD.out] at e
          rcases e with e | e
          · exact .inr e.1
          · have := C36.out.size; omega
        · omega)⟩
      have HLEN : As (i = text.length / 16) := ⟨by rw [← HN.out]; exact HMM.out⟩
      by_cases hz : tn % 16 = 0
      · have hr1 : ((tn : Int).tmod 16) = 0 := by rw [show (16 : Int) = ((16 : Nat) : Int) from rfl, ← Int.ofNat_tmod, hz]; rfl
        have hr2 : ((tn : Int) % 16) = 0 := by omega
        have HP : As (hashL perm sub mask text = sumL16 perm sub mask text i) := ⟨by unfold hashL; rw [← HN.out, if_pos hz, ← HMM.out]⟩
        clear hz
        go_wp2_with fail
        go_ret
        exact ⟨_, rfl, by rw [HP.out]; exact ST.out.os, CB1.out⟩
      · obtain ⟨r, hr⟩ : ∃ r, r = tn % 16 := ⟨_, rfl⟩
        have hr1 : 1 ≤ r := by omega
        have hr15 : r ≤ 15 := by omega
        have hrem : ((tn : Int).tmod 16) = (r : Int) := by rw [show (16 : Int) = ((16 : Nat) : Int) from rfl, ← Int.ofNat_tmod, hr]
        have hrem2 : ((tn : Int) % 16) = (r : Int) := by omega
        have hreq : ((r : Int) != 0) = true := by simp; omega
        obtain ⟨s, hs⟩ : ∃ s, s = 16 - r := ⟨_, rfl⟩
        have hs1 : 1 ≤ s := by omega
        have hs15 : s ≤ 15 := by omega
        have hsub : (16 : Int) - (r : Int) = (s : Int) := by omega
        obtain ⟨a, ha⟩ : ∃ a, a = 16 * i := ⟨_, rfl⟩
        have hatn : a + r = tn := by have := HMM.out; omega
        have e1 : (16 : Int) * (i : Int) = (a : Int) := by omega
        have e2 : IntKind.i64.wrap (a : Int) = (a : Int) := by simp [IntKind.wrap, IntKind.bits, IntKind.signed]; omega
        obtain ⟨A', hcut, hA', _⟩ := cut_from (P := Tryd.prog) 22 5 Tryd.underlying22 size8 (some ⟨gT, 0, none⟩) tn tn (a : Int) .i64 r r (by omega) (by omega) (by omega) (by omega)
        have hA2 := hA' (by omega)
        rw [Int.toNat_natCast, Option.map_some, add_lit0] at hA2
        subst hA2
        have HX := As.mk (And.intro ha (And.intro hatn (And.intro hr hs)))
        have HLE : As (((List.replicate s (0 : Int)).set 0 128).length = s) := ⟨by rw [List.length_set, List.length_replicate]⟩
        have HRL : As (r = (text.drop a).length) := ⟨by rw [List.length_drop, ← HN.out]; omega⟩
        have HPB : As (text.drop a ++ (List.replicate s (0 : Int)).set 0 128 = padB (text.drop a) 16) := ⟨by
          unfold padB
          rw [← HRL.out, List.append_assoc]
          congr 1
          obtain ⟨s', rfl⟩ : ∃ s', s = s' + 1 := ⟨s - 1, by omega⟩
          rw [List.replicate_succ, List.set_cons_zero, show 16 - (r + 1) = s' by omega]
          rfl⟩
        have HP : As (hashL perm sub mask text = xorL (sumL16 perm sub mask text i) (encL perm sub mask (xorL (padB (text.drop a) 16) (xorL (offL perm sub mask i) (lAstL perm sub mask))))) := ⟨by unfold hashL; rw [← HN.out, if_neg hz, ← HMM.out, ha]⟩
        have x3 : wr.cell? ⟨OB, 3, none⟩ = some (.slice (some ⟨gA, 0, none⟩) 16 16) := by obtain ⟨v, h, _⟩ := OC.out; exact h.cell 3
        have HLA : As (16 = (lAstL perm sub mask).length) := ⟨(lAstL_length HM.out).symm⟩
        clear hA' ha hatn hr hs hz
        go_wp2_with fail
        refine (mut_any (off := 0) ST.out.oo (offL_byt _ _ _ _) ST.out.ra (lAstL_byt HBY.out.1 HBY.out.2.1) HLA.out (by omega) (by omega) (by omega) (fun ad e h => by injection e with e; subst e; have h2 : gA = gO := h; have := AP.out.aO; omega) (by omega)).mono ?_
        rintro e7 w7 ⟨rfl, ho7, hc7⟩
        have hxo : xorM (offL perm sub mask i) 0 (lAstL perm sub mask) 16 = xorL (offL perm sub mask i) (lAstL perm sub mask) := by
          have h1 := xorM_all (zs := offL perm sub mask i) (ys := lAstL perm sub mask) (by rw [← HLA.out, offL_length])
          rw [← HLA.out] at h1
          exact h1
        rw [hxo] at ho7
        have ST7 := As.mk (ST.out.setO AP.out ho7 hc7)
        have OC7 := As.mk (OC.out.row hc7 (Nat.ne_of_lt AP.out.oO) AP.out.kO)
        have HZT := As.mk (own_len ST.out.ot)
        clear ho7 hc7 hxo x3 ST OC CB1
        obtain ⟨ol, hol⟩ : ∃ ol, ol = xorL (offL perm sub mask i) (lAstL perm sub mask) := ⟨_, rfl⟩
        have HOL2 : As (16 = ol.length ∧ Byt ol) := ⟨by rw [hol]; exact ⟨by rw [xorL_length, offL_length], xorL_byt (offL_byt _ _ _ _) (lAstL_byt HBY.out.1 HBY.out.2.1)⟩⟩
        rw [← hol] at ST7 HP
        clear hol
        go_wp2_with (first
          | ((with_reducible refine gate (N := 107) rfl ?_); refine wpList_make_k rfl _ 22 rfl 5 .u8 1 Tryd.underlying22 info8 (by decide) s _ rfl rfl (by omega) ?_
             intro w8 gE HGE ho8 hc8 hz8
             have O8 := As.mk ho8
             have C8 := As.mk hc8
             obtain ⟨f0, f1⟩ := own_at ho8 0 (by rw [List.length_replicate]; omega)
             have hset := own_set ho8 0 128
             have hset2 : Own (w8.setCell ⟨gE, 0, none⟩ (.int .u8 128)) w7.heap.size 5 .u8 (.slice (some ⟨gE, 0, none⟩) s s) ((List.replicate s 0).set 0 128) := hset
             have S8 := As.mk hset2
             have C9 : As (Chg NoB w7 (w8.setCell ⟨gE, 0, none⟩ (.int .u8 128))) := ⟨hc8.setCell (p := ⟨gE, 0, none⟩) _ (fun h => by exfalso; have h1 : gE < w7.heap.size := h; have := HGE.out; omega)⟩
             clear ho8 hc8 hz8 hset hset2)
          | (at_builtin; refine wpList_append_full rfl _ _ 22 rfl 5 .u8 1 Tryd.underlying22 info8 (by decide) w7.heap.size ⟨gT, a, none⟩ r r (text.drop a) ((List.replicate s 0).set 0 128) (some ⟨gE, 0, none⟩) s s rfl rfl HRL.out ?hx HLE.out.symm (own_reads S8.out) (by omega) (by omega) C9.out.size (by omega) ?_
             (case hx =>
                have h := ((own_reads ST7.out.ot).keep C9.out).drop_ a
                rw [Option.map_some, add_lit0, HX.out.1, ZD.out, ← HX.out.1] at h
                exact h)
             intro v10 w10 ho10 hc10
             obtain ⟨gX, cX, hv10, hcX, hgX, hgX2⟩ := own_form_pos ho10 (by rw [List.length_append, HLE.out, ← HRL.out]; omega)
             rw [show (text.drop a ++ (List.replicate s (0 : Int)).set 0 128).length = 16 from by rw [List.length_append, HLE.out, ← HRL.out]; have := HX.out; omega] at hv10 hcX
             subst hv10
             rw [HPB.out] at ho10
             have O10 := As.mk ho10
             have C10 : As (Chg NoB w7 w10) := ⟨C9.out.trans hc10 (fun _ _ e => e)⟩
             have HGX := As.mk (And.intro hcX (And.intro hgX hgX2))
             clear ho10 hc10 hcX hgX hgX2))
        clear O8 C8 S8 C9
        have ST10 := As.mk (ST7.out.keep C10.out)
        have OC10 := As.mk (OC7.out.keep C10.out)
        have HPL : As ((padB (text.drop a) 16).length = 16) := ⟨padB_length (by rw [← HRL.out]; omega)⟩
        have HPY : As (Byt (padB (text.drop a) 16)) := ⟨((HBY.out.2.2.drop _).append (fun x h => by simp at h; omega)).append (zeros_byt _)⟩
        have HGO : As (∀ b, b < w7.heap.size → b ≠ gX) := ⟨fun b hb e => by have := HGX.out; omega⟩
        have H7 : As (OB < w7.heap.size ∧ gT < w7.heap.size ∧ gS < w7.heap.size ∧ gO < w7.heap.size) := ⟨⟨by obtain ⟨v, h, _⟩ := OC7.out; exact h.lt, (own_blocks ST7.out.ot).2, (own_blocks ST7.out.os).2, (own_blocks ST7.out.oo).2⟩⟩
        refine (mut_any (off := 0) O10.out HPY.out (own_reads ST10.out.oo) HOL2.out.2 HOL2.out.1 (by omega) (by omega) HGX.out.1 (fun ad e h => by injection e with e; subst e; exact HGO.out _ H7.out.2.2.2 h) (by omega)).mono ?_
        rintro e11 w11 ⟨rfl, ho11, hc11⟩
        have hxp : xorM (padB (text.drop a) 16) 0 ol 16 = xorL (padB (text.drop a) 16) ol := by
          have h1 := xorM_all (zs := padB (text.drop a) 16) (ys := ol) (by rw [← HOL2.out.1, HPL.out])
          rw [← HOL2.out.1] at h1
          exact h1
        rw [hxp] at ho11
        have O11 := As.mk ho11
        have C11 : As (Chg NoB w7 w11) := ⟨C10.out.trans hc11 (fun b hb e => HGO.out b hb e)⟩
        have ST11 := As.mk (ST7.out.keep C11.out)
        have OC11 := As.mk (OC7.out.keep C11.out)
        have HXL : As (16 = (xorL (padB (text.drop a) 16) ol).length) := ⟨by rw [xorL_length, HPL.out]⟩
        have HXY : As (Byt (xorL (padB (text.drop a) 16) ol)) := ⟨xorL_byt HPY.out HOL2.out.2⟩
        have x0 : w11.cell? ⟨OB, 0, none⟩ = some (cphV B) := by obtain ⟨v, h, _⟩ := OC11.out; exact h.cell 0
        clear ho11 hc11 hxp O10 C10 ST10 OC10
        go_wp2_with fail
        refine (encrypt_any (off := 0) ST11.out.cp HR.out HM.out HBY.out.1 HBY.out.2.1 O11.out (by omega) HGX.out.1 (own_reads O11.out) HXY.out HXL.out (by omega)).mono ?_
        rintro e12 w12 ⟨rfl, ho12, hc12⟩
        have HEL : As ((encL perm sub mask (xorL (padB (text.drop a) 16) ol)).length = 16) := ⟨by rw [encL_length]; exact HM.out⟩
        have HEB : As (Byt (encL perm sub mask (xorL (padB (text.drop a) 16) ol))) := ⟨encL_byt _ HBY.out.1 HBY.out.2.1⟩
        rw [splice_all (by rw [HEL.out]; exact HXL.out)] at ho12
        have O12 := As.mk ho12
        have C12 : As (Chg NoB w7 w12) := ⟨C11.out.trans hc12 (fun b hb e => HGO.out b hb e)⟩
        have ST12 := As.mk (ST7.out.keep C12.out)
        clear ho12 hc12 O11 C11 ST11 OC11 x0
        go_wp2_with fail
        refine (mut_any (off := 0) ST12.out.os (sumL16_byt HBY.out.1 HBY.out.2.1 _ _) (own_reads O12.out) HEB.out HEL.out.symm (by omega) (by omega) (by omega) (fun ad e h => by injection e with e; subst e; have h2 : gX = gS := h; exact HGO.out _ H7.out.2.2.1 h2.symm) (by omega)).mono ?_
        rintro e13 w13 ⟨rfl, ho13, hc13⟩
        have hxs : xorM (sumL16 perm sub mask text i) 0 (encL perm sub mask (xorL (padB (text.drop a) 16) ol)) 16 = hashL perm sub mask text := by
          have h1 := xorM_all (zs := sumL16 perm sub mask text i) (ys := encL perm sub mask (xorL (padB (text.drop a) 16) ol)) (by rw [HEL.out, sumL16_length])
          rw [HEL.out] at h1
          rw [h1, HP.out]
        rw [hxs] at ho13
        have ST13 := As.mk (ST12.out.setS AP.out ho13 hc13)
        clear ho13 hc13 hxs ST12 O12 C12
        go_wp2_with fail
        go_ret
        refine ⟨_, rfl, ST13.out.os, (C36.out.mono (fun _ _ e => e.elim)).trans ST13.out.ch (fun b hb e => ?_)⟩
        have ho := HORD.out
        rcases e with (e | e) | e
        · exact .inl e
        · rw [HKD.out] at e
          rcases e with e | e
          · exact .inr e.1
          · have := C36.out.size; omega
        · omega
end Go.Proofs.YtlpningplmbnhaaDoor
