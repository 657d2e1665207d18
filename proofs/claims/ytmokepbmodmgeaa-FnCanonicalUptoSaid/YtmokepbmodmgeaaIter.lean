/- The contract of s2k.Iterated over the hash of plain data, where the count is at most the length of both. -/
import Derived.Test.YtmokepbmodmgeaaImplS2k
set_option linter.unusedVariables false
set_option linter.unusedSimpArgs false
namespace Go.Proofs.Ytmokepbmodmgeaa
open Go.RowKit V
theorem Dw.up {w w' : World} {B0 B1 B2 d n : Nat} {SA : Option Addr} {sc : Nat} {MA : Option Addr} {mc : Nat} {sub mask : List Int} (h : Dw w B0 B1 d n SA sc MA mc sub mask) (hc : Chg NoB w w') (hB : B1 ≤ B2) : Dw w' B0 B2 d n SA sc MA mc sub mask := by
  obtain ⟨hf, v, k, hb⟩ := h
  exact ⟨⟨(hf.rs.keep hc).mono (fun b _ hb => ⟨hb.1, by omega, hb.2.2⟩), (hf.rm.keep hc).mono (fun b _ hb => ⟨hb.1, by omega, hb.2.2⟩), Nat.lt_of_lt_of_le hf.dlt hB, hf.dge, hf.ls, hf.lm, hf.bs, hf.bm, hf.n1, hf.n2⟩, v, k, hb.chg hc (fun e => e)⟩
theorem splice_front (xs : List Int) (k : Nat) : splice (List.replicate (xs.length + k) 0) 0 xs = xs ++ List.replicate k 0 := by
  simp [splice]
theorem splice_back (xs ys : List Int) : splice (xs ++ List.replicate ys.length 0) xs.length ys = xs ++ ys := by
  simp [splice]
theorem splice_none (xs : List Int) (k : Nat) : splice xs k [] = xs := by simp [splice]
set_option maxRecDepth 100000 in
set_option maxHeartbeats 1000000 in
theorem iterLoop (Bo B0 B2 d go co n : Nat) (SA : Option Addr) (sc : Nat) (MA : Option Addr) (mc : Nat) (sub mask pass salt : List Int) (size : Nat) (PA : Option Addr) (pn pc : Nat) (TA : Option Addr) (tn tc : Nat) (B1 cnt L : Nat) (w : World)
    (hd : Dw w B0 B1 d n SA sc MA mc sub mask) (hB : B1 ≤ w.heap.size) (ho : Own w Bo 5 .u8 (.slice (some ⟨go, 0, none⟩) size co) (List.replicate size 0)) (hgd : go < B0) (hsz : size ≤ 65536) (hco : size ≤ co)
    (hp : Rf (fun b => b < go) w PA pass) (ht : Rf (fun b => b < go) w TA salt) (hpn : pn = pass.length) (htn : tn = salt.length) (bp : Byt pass) (bt : Byt salt) (hL : L = pn + tn) (hLp : 1 ≤ L) (hL2 : L ≤ 1048576) (hcnt : cnt ≤ L) :
    Calls Try.prog 21 #[.slice (some ⟨go, 0, none⟩) size co, .iface 45 (.pointer (some ⟨d, 0, none⟩)), .slice PA pn pc, .slice TA tn tc, .int .i64 cnt] w (Stretched w Bo B0 w.heap.size d go co n SA sc MA mc sub mask (salt ++ pass) size) := by
  have HF := As.mk hd.1
  have HD := As.mk hd
  have HO := As.mk ho
  have HP := As.mk hp
  have HT := As.mk ht
  have HL := As.mk (And.intro hpn (And.intro htn (And.intro bp bt)))
  have hn1 := hd.1.n1
  have hn2 := hd.1.n2
  have hdB := hd.1.dlt
  have hd0 := hd.1.dge
  have HLL := As.mk hL
  have hsum : (pn : Int) + (tn : Int) = (L : Int) := by omega
  have hLi : (L : Int) ≤ 1048576 := by omega
  have hLi1 : (1 : Int) ≤ (L : Int) := by omega
  have htL : tn ≤ L := by omega
  have hpL : pn ≤ L := by omega
  obtain ⟨text, htext⟩ : ∃ text, text = salt ++ pass := ⟨_, rfl⟩
  have HTX : As (text = salt ++ pass ∧ L = text.length ∧ Byt text) := ⟨htext, by rw [htext, List.length_append]; omega, by rw [htext]; exact bt.append bp⟩
  rw [← htext]
  clear hd ho hp ht hpn htn bp bt hL htext
  have n1 := na_reset
  have n2 := na_write
  have n3 := na_sum
  have m1 := me_reset
  have m2 := me_write
  have m3 := me_sum
  go_enter Try.func21, Try.ntmps21
  go_upto_region 1 with ((with_reducible refine gate (N := 23) rfl ?_); refine wpList_make_k rfl _ 22 rfl 5 .u8 1 Try.underlying22 info8 (by decide) L _ rfl rfl (by omega) ?_; intro w2 gq HG ho2 hc2 hz2; have HO2 := As.mk ho2; have C2 := As.mk hc2; have HZ2 := As.mk hz2; have hgb := (own_blocks ho2); have HGB := As.mk hgb; clear hgb ho2 hc2 hz2)
  have HTt : As (∀ w', Chg (fun b => go < b) w w' → Rb w' TA salt ∧ Rb w' PA pass) := ⟨fun w' h => ⟨(HT.out.chg h (fun b _ hb e => by omega)).1, (HP.out.chg h (fun b _ hb e => by omega)).1⟩⟩
  have hgoq : go < gq := by have := HGB.out.1; omega
  obtain ⟨A', hcutC, hA', _⟩ := cut_from (P := Try.prog) 22 5 Try.underlying22 size8 (some ⟨gq, 0, none⟩) L L (tn : Int) .i64 pn pn (by omega) (by omega) (by omega) (Nat.le_refl _)
  have HA' : As (0 < pn → A' = some ⟨gq, tn, none⟩) := ⟨fun h => by
    rw [hA' h, Int.toNat_natCast]
    exact congrArg some (add_lit0 gq tn)⟩
  have HLZ : As (L = (List.replicate L (0 : Int)).length) := ⟨by simp⟩
  clear hA'
  go_upto_region 3 with (first
    | ((with_reducible refine gate (N := 26) rfl ?_)
       refine wpList_copy_n rfl _ _ 22 22 rfl w.heap.size 5 .u8 Try.underlying22 size8 gq L L (List.replicate L 0) HLZ.out HO2.out (some ⟨gq, 0, none⟩) 0 L L (by omega) rfl (fun _ => rfl) TA salt tn tc tn HL.out.2.1 rfl (HTt.out _ (C2.out.mono (fun _ _ e => e.elim))).1 (by omega) ?_
       intro w3 ho3 hg3
       have HO3 : As (Own w3 w.heap.size 5 .u8 (.slice (some ⟨gq, 0, none⟩) L L) (salt ++ List.replicate pn 0)) := ⟨by
         have h1 : L = salt.length + pn := by have := HLL.out; have := HL.out.2.1; omega
         rw [List.take_of_length_le (by omega)] at ho3
         rw [← splice_front salt pn, ← h1]
         exact ho3⟩
       have C3 := As.mk ((C2.out.mono (S' := fun b => go < b) (fun _ _ e => e.elim)).trans (grown_chg hg3) (fun b hb e => by have := Option.some.inj e; omega))
       have CQ3 := As.mk (C2.out.trans (grown_chg hg3) (fun b hb e => by have := Option.some.inj e; have := HGB.out.1; omega))
       clear ho3 hg3)
    | ((with_reducible refine gate (N := 32) rfl ?_)
       refine wpList_copy_n rfl _ _ 22 22 rfl w.heap.size 5 .u8 Try.underlying22 size8 gq L L (salt ++ List.replicate pn 0) ?hN HO3.out A' tn pn pn (by omega) rfl HA'.out PA pass pn pc pn HL.out.1 rfl (HTt.out _ C3.out).2 (by omega) ?_
       (case hN => (rw [List.length_append, List.length_replicate]; have := HLL.out; have := HL.out.2.1; omega))
       intro w4 ho4 hg4
       have HO4 : As (Own w4 w.heap.size 5 .u8 (.slice (some ⟨gq, 0, none⟩) L L) text) := ⟨by
         rw [List.take_of_length_le (by have := HL.out.1; omega)] at ho4
         have e := splice_back salt pass
         rw [← HL.out.1, ← HL.out.2.1] at e
         rw [HTX.out.1, ← e]
         exact ho4⟩
       have CQ4 := As.mk (CQ3.out.trans (grown_chg hg4) (fun b hb e => by have := Option.some.inj e; have := HGB.out.1; omega))
       clear ho4 hg4))
  obtain ⟨wc0, rfl⟩ : ∃ wc0 : World, wc0 = w4 := ⟨_, rfl⟩
  obtain ⟨B2, hB2⟩ : ∃ B2, B2 = wc0.heap.size := ⟨_, rfl⟩
  have hQ : As (w.heap.size ≤ gq ∧ gq < B2) := ⟨by rw [hB2]; exact own_blocks HO4.out⟩
  have hB : B2 ≤ wc0.heap.size := by omega
  have hB12 : B1 ≤ B2 := by have := hQ.out; omega
  have HQO := HO4
  have HQL := As.mk HTX.out.2
  have HD4 := As.mk (HD.out.up CQ4.out hB12)
  have HO0 := As.mk (own_keep HO.out CQ4.out)
  have hgq1 := hQ.out.1
  have hgq2 := hQ.out.2
  have hdq : d < gq := by omega
  have hdB : d < B2 := by omega
  have HF := As.mk HD4.out.1
  clear hB2
  by_cases hcl : cnt < L
  all_goals
    first | (have hcl2 : (cnt : Int) < (L : Int) := by omega) | (obtain rfl : L = cnt := by omega)
    go_wp2_with fail
    go_loopw [11, 12, 13] (fun dn v i wr => ∃ (k q : Nat) (xs : List Int) (A : Option Addr) (m c : Nat), v = .slice A m c ∧ dn = .int .i64 q ∧ q ≤ size ∧ i = .int .i64 k ∧ k ≤ 65536 ∧ As (q = min (k * n) size ∧ xs.length ≤ 64 ∧ m = xs.length ∧ m ≤ c) ∧ As (Own wr Bo 5 .u8 (.slice (some ⟨go, 0, none⟩) size co) (outAt sub n mask text size k)) ∧ As (Dw wr B0 B2 d n SA sc MA mc sub mask) ∧ As (Ow wr B2 5 .u8 (.slice A m c) xs) ∧ As (Chg (fun b => b = go ∨ b = d ∨ B2 ≤ b) wc0 wr)) (fun dn _ _ _ => size - (intOf dn).toNat)
    case atStart => exact ⟨0, 0, [], none, 0, 0, rfl, rfl, Nat.zero_le _, rfl, by omega, ⟨by simp⟩, ⟨by rw [outAt_zero]; exact HO0.out⟩, HD4, ⟨ow_of (own_nil _ _ _ _)⟩, ⟨Chg.refl _ _⟩⟩
    case round =>
      obtain ⟨k, q, xs, A, m, c, rfl, rfl, hq, rfl, hk, HQ, HO', HD', HV, HC⟩ := hrel
      by_cases hlt : q < size
      · have hB' : B2 ≤ wr.heap.size := Nat.le_trans hB HC.out.size
        have HQK : As (q = k * n) := ⟨by have := HQ.out.1; omega⟩
        have hk2 : (k : Int) ≤ 65536 := by omega
        go_wp2_with fail
        refine (reset_any B0 B2 d n SA sc MA mc sub mask _ HD'.out hB').mono ?_
        rintro e w1 ⟨rfl, hc1, g, gc, hds, hg⟩
        have HC1 := As.mk hc1
        have HDS := As.mk hds
        have HG := As.mk hg
        clear hc1 hds hg
        go_wp2_with fail
        have hg0 : B2 ≤ g := Nat.le_trans hB' HG.out
        obtain ⟨wo, rfl⟩ : ∃ wo : World, wo = wr := ⟨_, rfl⟩
        go_loopw [14] (fun jv wj => ∃ j : Nat, j ≤ k ∧ jv = .int .i64 j ∧ As (Ds wj B0 B2 d n SA sc MA mc sub mask g gc (dmix sub n (mask, 0) (List.replicate j 0))) ∧ As (Chg (fun b => b = d ∨ (b ≠ go ∧ wo.heap.size ≤ b)) wo wj)) (fun jv _ => k - (intOf jv).toNat)
        case atStart => exact ⟨0, Nat.zero_le _, rfl, ⟨HDS.out⟩, ⟨HC1.out.mono (fun b _ e => .inl e)⟩⟩
        case round =>
          obtain ⟨j, hj, rfl, HJ, HJC⟩ := hrel
          by_cases hjl : j < k
          · have HW : As (Calls Try.prog 46 #[.pointer (some ⟨d, 0, none⟩), .slice (some ⟨wr.heap.size, 0, none⟩) 1 1] (wr.alloc (.cells #[.int .u8 0] 5)) (WasMixed (wr.alloc (.cells #[.int .u8 0] 5)) B0 B2 d n SA sc MA mc sub mask g gc (dmix sub n (dmix sub n (mask, 0) (List.replicate j 0)) [0]) 1)) := ⟨by
              have hal : Chg NoB wr (wr.alloc (.cells #[.int .u8 0] 5)) := (Chg.refl NoB wr).alloc _
              have hgl := (own_blocks HJ.out.2.2.1).2
              have hdl := HJ.out.2.1.lt
              refine write_any B0 B2 d n SA sc MA mc sub mask g gc _ (some ⟨wr.heap.size, 0, none⟩) 1 1 [0] _ (HJ.out.keep hal) rfl ⟨?_, fun ad e hp => by injection e with e; subst e; exact ⟨by show wr.heap.size ≠ d; omega, by show wr.heap.size ≠ g; omega⟩⟩ (fun x hx => by simp at hx; subst hx; decide)
              exact own_reads (own_lit wr 0 5 .u8 [0] (Nat.zero_le _) (by simp [maxLen]))⟩
            go_wp2_with fail
            refine HW.out.mono ?_
            rintro e w2 ⟨rfl, hc2, hds2⟩
            have HC2 : As (Chg (fun b => b = d ∨ (b ≠ go ∧ wo.heap.size ≤ b)) wo w2) := ⟨(HJC.out.alloc (.cells #[.int .u8 0] 5)).trans hc2 (fun b hb e => by have := HG.out; rcases e with e | e; exact .inl e; omega)⟩
            have HD2 : As (Ds w2 B0 B2 d n SA sc MA mc sub mask g gc (dmix sub n (mask, 0) (List.replicate (j + 1) 0))) := ⟨by rw [List.replicate_succ', dmix_append]; exact hds2⟩
            clear hc2 hds2
            go_wp2_with fail
            go_roundw
            case rel => exact ⟨j + 1, by omega, by go_num, HD2, HC2⟩
            case measure => simp [intOf]; omega
          · obtain rfl : j = k := by omega
            have hgl := (own_blocks HJ.out.2.2.1).2
            have CW : As (Chg (fun b => b = go ∨ b = d ∨ B2 ≤ b) wc0 wr) := ⟨HC.out.trans HJC.out (fun b hb e => by rcases e with e | e; exact .inr (.inl e); exact .inr (.inr (Nat.le_trans hB' e.2)))⟩
            have HWt := As.mk (write_any B0 B2 d n SA sc MA mc sub mask g gc _ (some ⟨gq, 0, none⟩) L L text wr HJ.out HQL.out.1 ⟨own_reads (own_chg HQO.out CW.out (fun b hb e => by simp [Value.ownBlock] at hb; rcases e with e | e | e <;> omega)), fun ad e hp => by injection e with e; subst e; exact ⟨by show gq ≠ d; omega, by show gq ≠ g; omega⟩⟩ HQL.out.2)
            obtain ⟨wi, rfl⟩ : ∃ wi : World, wi = wr := ⟨_, rfl⟩
            go_wp2_with fail
            go_loopw [15] (fun zv wr => ∃ z : Nat, zv = .int .i64 z ∧ As ((z = 0 ∧ wr = wi) ∨ (z = L ∧ Ds wr B0 B2 d n SA sc MA mc sub mask g gc (dmix sub n (dmix sub n (mask, 0) (List.replicate j 0)) text) ∧ Chg (fun b => b = d ∨ b = g) wi wr))) (fun zv _ => L - (intOf zv).toNat)
            case atStart => exact ⟨0, rfl, ⟨.inl ⟨rfl, rfl⟩⟩⟩
            case round =>
              obtain ⟨z, rfl, HZ0⟩ := hrel
              rcases HZ0.out with ⟨rfl, rfl⟩ | ⟨rfl, hds5, hc5⟩
              · go_wp2_with fail
                refine HWt.out.mono ?_
                rintro e w4 ⟨rfl, hc4, hd4⟩
                have H4 := As.mk (And.intro hd4 hc4)
                clear hc4 hd4
                go_wp2_with fail
                go_roundw
                case rel => exact ⟨L, by go_num, ⟨.inr ⟨rfl, H4.out.1, H4.out.2⟩⟩⟩
                case measure => simp [intOf]; omega
              · obtain ⟨w5, rfl⟩ : ∃ w5 : World, w5 = wr := ⟨_, rfl⟩
                have HC4 := As.mk hc5
                have hd5 := hds5
                rw [← dmix_append] at hd5
                have HD5 := As.mk hd5
                have C5 : As (Chg (fun b => b = d ∨ (b ≠ go ∧ wo.heap.size ≤ b)) wo w5) := ⟨HJC.out.trans HC4.out (fun b hb e => by have := HG.out; rcases e with e | e; exact .inl e; omega)⟩
                have HV5 : As (Ow w5 B2 5 .u8 (.slice A 0 c) []) := ⟨by
                  refine ow_take0 (m := m) (xs := xs) ?_
                  rcases HV.out with h | h
                  · exact .inl (own_chg h C5.out (fun b hb e => by have := own_block_lt h b hb; rcases e with e | e <;> omega))
                  · exact .inr h⟩
                have HO5 := As.mk (own_chg HO'.out C5.out (fun b hb e => by simp [Value.ownBlock] at hb; rcases e with e | e <;> omega))
                have hB5 : B2 ≤ w5.heap.size := Nat.le_trans hB' C5.out.size
                have HSUM : As (∀ w', Chg NoB w5 w' → Calls Try.prog 45 #[.pointer (some ⟨d, 0, none⟩), .slice A 0 c] w' (WasSummed w' B2 (.slice A 0 c) [] (sumOf sub n mask text j))) := ⟨fun w' h => sum_any B0 B2 d n SA sc MA mc sub mask g gc _ _ [] w' (HD5.out.keep h) (ow_keep HV5.out h) (Nat.le_trans hB5 h.size) (by simp)⟩
                have hcut0 := cut_to (P := Try.prog) 22 5 Try.underlying22 size8 A m c 0 .i64 0 rfl (by omega)
                have HLS := As.mk (sumOf_length (text := text) HF.out.bs HF.out.bm HF.out.lm hn1 j)
                clear hc5 hd5 hds5 HZ0
                go_upto_region 23 with fail
                go_cut [12] (fun s9 wx => ∃ (A' : Option Addr) (c' : Nat), s9 = .slice A' n c' ∧ n ≤ c' ∧ As (Ow wx B2 5 .u8 (.slice A' n c') (sumOf sub n mask (text) j)) ∧ As (Chg (OvS B2 (.slice A 0 c)) w5 wx))
                case first =>
                  go_region_law (first
                    | (go_simp
                       refine (HSUM.out _ ?hc0).mono ?_
                       case hc0 => repeat (first | exact Chg.refl _ _ | (with_reducible apply Chg.drew) | (with_reducible apply Chg.alloc))
                       rintro e6 w6 ⟨v6, rfl, ho6, hc6⟩
                       rw [List.nil_append] at ho6
                       obtain ⟨A6, c6, rfl, hl6, _⟩ := ow_form ho6
                       rw [HLS.out] at ho6 hl6
                       rw [HLS.out]
                       have HO6 := As.mk ho6
                       have HC6 : As (Chg (OvS B2 (.slice A 0 c)) w5 w6) := ⟨Chg.trans (Chg.mono (S := NoB) (by repeat (first | exact Chg.refl _ _ | (with_reducible apply Chg.drew) | (with_reducible apply Chg.alloc))) (fun _ _ e => e.elim)) hc6 (fun _ _ e => e)⟩
                       clear ho6 hc6))
                  all_goals
                    go_wp2_with fail
                    go_meet
                    exact ⟨A6, c6, rfl, hl6, HO6, HC6⟩
                case rest =>
                  obtain ⟨A6, c6, rfl, hnc6, HO6, HC6⟩ := hcut
                  obtain ⟨z, hz⟩ : ∃ z, z = min n (size - q) := ⟨_, rfl⟩
                  have HZ := As.mk hz
                  have hz1 : 1 ≤ z := by omega
                  have hz2 : z ≤ 64 := by omega
                  obtain ⟨A', hcutO, hA', _⟩ := cut_from (P := Try.prog) 22 5 Try.underlying22 size8 (some ⟨go, 0, none⟩) size co (q : Int) .i64 (size - q) (co - q) (by omega) (by omega) (by omega) hco
                  have hA2 : A' = some ⟨go, q, none⟩ := by
                    rw [hA' (by omega), Int.toNat_natCast]
                    exact congrArg some (add_lit0 go q)
                  subst hA2
                  have HOL := As.mk (outAt_length (text := text) (size := size) HF.out.bs HF.out.bm HF.out.lm hn1 j)
                  have HO6c := As.mk (own_chg HO5.out HC6.out (fun b hb e => by simp [Value.ownBlock] at hb; subst hb; have := e.1; omega))
                  have HD6 := As.mk (HD5.out.weak.chg HC6.out (fun b _ hb e => by have := e.1; omega))
                  have HR6 : As (Rb wc A6 (sumOf sub n mask (text) j)) := ⟨ow_reads' HO6.out⟩
                  have hqz : (q : Int) + (z : Int) ≤ 66000 := by omega
                  clear hz hA' hcut0
                  go_wp2_with (with_reducible refine wpList_copy_n rfl _ _ 22 22 rfl Bo 5 .u8 Try.underlying22 size8 go size co (outAt sub n mask (text) size j) HOL.out.symm HO6c.out (some ⟨go, q, none⟩) q (size - q) (co - q) ?h1 rfl (fun _ => rfl) A6 (sumOf sub n mask (text) j) n c6 z HLS.out.symm rfl HR6.out HZ.out ?_
                               (case h1 => omega)
                               intro w7 ho7 hg7
                               have HO7 : As (Own w7 Bo 5 .u8 (.slice (some ⟨go, 0, none⟩) size co) (outAt sub n mask (text) size (j + 1))) := ⟨by
                                 rw [← outAt_step HF.out.bs HF.out.bm HF.out.lm hn1 (by have := HQK.out; omega), ← HQK.out]
                                 exact ho7⟩
                               have HC7 := As.mk (grown_chg hg7)
                               clear ho7 hg7)
                  go_roundw
                  case rel =>
                    have hC7 : Chg (fun b => b = go ∨ b = d ∨ B2 ≤ b) wc0 w7 := ((HC.out.trans C5.out (fun b hb e => by rcases e with e | e; exact .inr (.inl e); exact .inr (.inr (Nat.le_trans hB' e.2)))).trans HC6.out (fun b hb e => .inr (.inr e.1))).trans HC7.out (fun b hb e => .inl (Option.some.inj e).symm)
                    refine ⟨j + 1, q + z, sumOf sub n mask (text) j, A6, n, c6, rfl, by go_num, by have := HZ.out; omega, by go_num, ?_, ⟨?_, by rw [HLS.out]; omega, HLS.out.symm, hnc6⟩, HO7, ⟨HD6.out.chg HC7.out (fun b h0 hb e => by have := Option.some.inj e; omega)⟩, ⟨ow_chg HO6.out HC7.out (fun b hb hb2 e => by have := Option.some.inj e; omega)⟩, ⟨hC7⟩⟩
                    · have h1 := HQK.out
                      have h2 : j ≤ j * n := Nat.le_mul_of_pos_right _ (by omega)
                      omega
                    · have h1 := HQK.out
                      have h2 := HZ.out
                      rw [Nat.add_mul]
                      omega
                  case measure => simp [intOf]; omega
      · obtain rfl : q = size := by omega
        go_wp2_with fail
        go_end0
        refine ⟨rfl, ?_, (CQ4.out.mono (S' := fun b => b = go ∨ b = d ∨ w.heap.size ≤ b) (fun _ _ e => e.elim)).trans HC.out (fun b hb e => by rcases e with e | e | e; exact .inl e; exact .inr (.inl e); exact .inr (.inr (by omega)))⟩
        have := HO'.out
        rwa [HTX.out.1, outAt_end HF.out.bs HF.out.bm HF.out.lm hn1 (by have := HQ.out.1; omega), ← HTX.out.1] at this
end Go.Proofs.Ytmokepbmodmgeaa
