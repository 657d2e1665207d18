/- The contracts of spec.Joined and spec.Signed. PRINTED BY signed.py -/
import Derived.Test.YtphnjfbaioblbaaDoorLines2
import Derived.Test.YtphnjfbaioblbaaDoorDashS
set_option linter.unusedVariables false
set_option linter.unusedSimpArgs false
namespace Go.Proofs.YtphnjfbaioblbaaDoor
open Go.RowKit V
set_option maxRecDepth 100000 in
set_option maxHeartbeats 1000000 in
theorem joined_any (A : Option Addr) (n c : Nat) (vs : List Sl) (xss : List (List Int)) (w : World) (hn : n = vs.length) (hr : Rrs w A vs xss) (hl : xss.flatten.length ≤ 140737488351232) :
    Calls Tryd.prog 10 #[.slice A n c] w (Gives NoB w xss.flatten) := by
  have HR := As.mk hr
  have HN := As.mk hn
  have HL := As.mk hl
  have hm : n ≤ 9223372036854775806 := by have := hr.1.1; omega
  clear hr hn hl
  go_enter Tryd.func10, Tryd.ntmps10
  go_wp2_with fail
  go_loopw [3, 8] (fun v iv wr => ∃ (k : Nat) (Av : Option Addr) (nv cv : Nat), v = .slice Av nv cv ∧ k ≤ n ∧ iv = .int .i64 k ∧ As (Own wr w.heap.size 5 .u8 (.slice Av nv cv) (xss.take k).flatten) ∧ As (Chg NoB w wr)) (fun _ iv _ => n - (intOf iv).toNat)
  case atStart => exact ⟨0, none, 0, 0, rfl, Nat.zero_le _, rfl, ⟨own_nil _ _ _ _⟩, ⟨Chg.refl _ _⟩⟩
  case round =>
    obtain ⟨k, Av, nv, cv, rfl, hk, rfl, HO, HC⟩ := hrel
    by_cases hlt : k < n
    · have hkv : k < vs.length := by have := HN.out; omega
      have hkx : k < xss.length := by have := HR.out.2.1; omega
      have HRr := As.mk (HR.out.keep HC.out)
      have HF := As.mk (flat_take hkx)
      have hrow := HRr.out.2.2 k hkv hkx
      have hle2 := flat_take_le xss (k + 1)
      obtain ⟨ad, hadd, hb0, hcell⟩ := HR.out.1.2 (by omega)
      subst hadd
      have hck : wr.cell? (ad.add k) = some (.slice vs[k].1 vs[k].2.1 vs[k].2.2) := (HC.out.cell (p := ad.add k) (by rw [add_block]; exact hb0) (fun e => e)).trans (hcell k hkv)
      generalize vs[k].2.1 = pn at *
      generalize vs[k].1 = PA at *
      generalize vs[k].2.2 = pc at *
      generalize hys : xss[k] = ys at *
      have HBR := As.mk hrow.2
      have HPN := As.mk hrow.1
      have HLL : As ((xss.take k).flatten.length + ys.length ≤ 140737488351232) := ⟨by
        have := congrArg List.length HF.out
        have := HL.out
        rw [List.length_append] at *
        omega⟩
      clear hrow hcell hys hle2 hb0
      go_wp2_with (at_builtin; refine wpList_append_rk rfl _ _ 25 rfl 5 .u8 1 Tryd.underlying25 info8 (by decide) _ w.heap.size _ ys PA pc rfl (by rw [← HPN.out]; rfl) HO.out HBR.out HC.out.size (by have := HLL.out; omega) ?_; intro v1 w1 ho1 hg1 hb1; obtain ⟨A1, c1, hv1, _, _⟩ := ow_form (ow_of ho1); generalize hm1 : ((xss.take k).flatten ++ ys).length = m1 at hv1; clear hm1; subst hv1; have HO1 := As.mk ho1; have hc1 := grown_chg hg1; have HC1 := As.mk hc1; clear ho1 hg1 hb1 hc1)
      go_roundw
      case rel => exact ⟨k + 1, A1, m1, c1, rfl, by omega, by go_num, ⟨by rw [HF.out]; exact HO1.out⟩, ⟨HC.out.trans HC1.out (fun b hb e => by have := (own_block_lt HO.out b e).1; omega)⟩⟩
      case measure => simp [intOf]; omega
    · obtain rfl : k = n := by omega
      go_wp2_with fail
      go_ret
      refine ⟨_, rfl, ?_, HC.out⟩
      have h1 := HO.out
      rw [List.take_of_length_le (by have := HN.out; have := HR.out.2.1; omega)] at h1
      exact h1
theorem trimL_len (l : List Int) : (trimL l).length ≤ l.length := by
  unfold trimL
  rw [List.length_reverse]
  have h := (List.dropWhile_sublist (p := blankB) (l := l.reverse)).length_le
  rwa [List.length_reverse] at h
theorem signS_len (B : Nat) (ls : List (List Int)) (h : ∀ l ∈ ls, l.length ≤ B) : (signS ls).length ≤ ls.length * (B + 2) := by
  rcases List.eq_nil_or_concat ls with e | ⟨l', x, e⟩
  · subst e; simp [signS]
  · rw [List.concat_eq_append] at e
    subst e
    have ih := signS_len B l' (fun l hl => h l (List.mem_append_left _ hl))
    have hx := h x (by simp)
    have ht := trimL_len x
    rw [signS_snoc, List.length_append, List.length_append, List.length_singleton, Nat.add_mul, Nat.one_mul]
    split
    · simp; omega
    · simp; omega
termination_by ls.length
decreasing_by subst e; simp
theorem splits_len (t : List Int) : (splits t).1.length ≤ t.length ∧ (∀ l ∈ (splits t).1, l.length ≤ t.length) ∧ (splits t).2.length ≤ t.length := by
  have key : ∀ (t : List Int) p (m : Nat), p.1.length ≤ m → (∀ l ∈ p.1, l.length ≤ m) → p.2.length ≤ m → (t.foldl splitStep p).1.length ≤ m + t.length ∧ (∀ l ∈ (t.foldl splitStep p).1, l.length ≤ m + t.length) ∧ (t.foldl splitStep p).2.length ≤ m + t.length := by
    intro t
    induction t with
    | nil => exact fun p m h1 h2 h3 => ⟨h1, h2, h3⟩
    | cons c t ih =>
      intro p m h1 h2 h3
      have h : (splitStep p c).1.length ≤ m + 1 ∧ (∀ l ∈ (splitStep p c).1, l.length ≤ m + 1) ∧ (splitStep p c).2.length ≤ m + 1 := by
        unfold splitStep
        split
        · refine ⟨by simp; omega, fun l hl => ?_, by simp⟩
          rcases List.mem_append.1 hl with q | q
          · exact Nat.le_succ_of_le (h2 l q)
          · simp at q; subst q; omega
        · exact ⟨by simp only; omega, fun l hl => Nat.le_succ_of_le (h2 l hl), by simp; omega⟩
      have r := ih (splitStep p c) (m + 1) h.1 h.2.1 h.2.2
      simp only [List.foldl_cons, List.length_cons]
      rw [show m + (t.length + 1) = m + 1 + t.length by omega]
      exact r
  have h := key t ([], []) 0 (by simp) (by simp) (by simp)
  rw [Nat.zero_add] at h
  exact h
theorem linesL_len (t : List Int) : (linesL t).length ≤ t.length + 1 ∧ ∀ l ∈ linesL t, l.length ≤ t.length := by
  have h := splits_len t
  unfold linesL
  refine ⟨by simp; exact h.1, fun l hl => ?_⟩
  rcases List.mem_append.1 hl with q | q
  · exact h.2.1 l q
  · simp at q; subst q; exact h.2.2
theorem signS_small (xs : List Int) (h : xs.length ≤ 3000) (k : Nat) : (signS ((linesL xs).take k)).length ≤ 10000000 := by
  have hl := linesL_len xs
  have h1 := signS_len 3000 ((linesL xs).take k) (fun l q => Nat.le_trans (hl.2 l (List.mem_of_mem_take q)) h)
  have h2 : ((linesL xs).take k).length ≤ 3001 := by rw [List.length_take]; omega
  have h3 := Nat.mul_le_mul_right (3000 + 2) h2
  omega
set_option maxRecDepth 100000 in
set_option maxHeartbeats 2000000 in
theorem signed_any (A : Option Addr) (n c : Nat) (xs : List Int) (w : World) (hn : n = xs.length) (hc : n ≤ c) (hm : n ≤ 3000) (hr : Rb w A xs) (hA : ∀ ad, A = some ad → ad.block < w.heap.size) :
    Calls Tryd.prog 8 #[.slice A n c] w (Gives NoB w (signS (linesL xs))) := by
  have HL := As.mk (lines_any A n c xs w hn hc (by omega) hr hA)
  have HB := As.mk (signS_small xs (by omega))
  have HLN := As.mk (linesL_len xs)
  have HX : As (xs.length ≤ 3000) := ⟨by omega⟩
  clear hr hn hA
  go_enter Tryd.func8, Tryd.ntmps8
  go_wp2_with fail
  refine HL.out.mono ?_
  rintro e w1 ⟨v, rfl, hrw, hc1⟩
  have HC1 := As.mk hc1
  have hll : (linesL xs).length ≤ 3001 := by have := HLN.out.1; have := HX.out; omega
  obtain ⟨B, d, vs, hv, hdc, hrr, hpz, _, _⟩ := hrw.row (by omega)
  subst hv
  have HLI := As.mk HLN.out.2
  generalize linesL xs = ls at *
  obtain ⟨m, hml⟩ : ∃ m, m = ls.length := ⟨_, rfl⟩
  rw [← hml] at hll hdc
  simp only [← hml]
  have HR := As.mk hrr
  have HPZ := As.mk hpz
  have HM := As.mk hml
  clear hrr hpz hml hc1 hrw HL HLN
  go_wp2_with fail
  go_loopw [3, 9] (fun v iv wr => ∃ (k : Nat) (Av : Option Addr) (nv cv : Nat), v = .slice Av nv cv ∧ k ≤ m ∧ iv = .int .i64 k ∧ As (Own wr w1.heap.size 5 .u8 (.slice Av nv cv) (signS (ls.take k))) ∧ As (Chg NoB w1 wr)) (fun _ iv _ => m - (intOf iv).toNat)
  case atStart => exact ⟨0, none, 0, 0, rfl, Nat.zero_le _, rfl, ⟨own_nil _ _ _ _⟩, ⟨Chg.refl _ _⟩⟩
  case round =>
    obtain ⟨k, Av, nv, cv, rfl, hk, rfl, HO, HC⟩ := hrel
    by_cases hlt : k < m
    · have hltz : (k : Int) < (m : Int) := by omega
      have hkx : k < ls.length := by have := HM.out; omega
      have hkv : k < vs.length := by have := HR.out.2.1; omega
      have hrow := HR.out.2.2 k hkv hkx
      have hpc : vs[k].2.1 ≤ vs[k].2.2 := by have h := HPZ.out k hkv hkx; rw [h.1]; exact h.2.1
      obtain ⟨ad, eB, hck⟩ := (HR.out.keep HC.out).1.at_ k hkv
      subst eB
      have HT : As (signS (ls.take (k + 1)) = (if k = 0 then [] else signS (ls.take k) ++ [13, 10]) ++ trimL ls[k]) := ⟨by
        rw [List.take_succ_eq_append_getElem hkx, signS_snoc]
        have he : (ls.take k = []) ↔ k = 0 := by rw [List.take_eq_nil_iff]; constructor; (intro h; rcases h with h | h; exact h; (rw [h] at hkx; simp at hkx)); exact .inl
        simp only [he]⟩
      have HYL : As (ls[k].length ≤ 3000) := ⟨Nat.le_trans (HLI.out _ (List.getElem_mem hkx)) HX.out⟩
      generalize vs[k].2.1 = pn at *
      generalize vs[k].1 = PA at *
      generalize vs[k].2.2 = pc at *
      generalize ls[k] = ys at *
      have HBR := As.mk hrow.2
      have HPN := As.mk hrow.1
      have hbk := HB.out k
      have HBK := As.mk hbk
      have e1 : IntKind.i64.wrap ((k : Int) + 1) = ((k + 1 : Nat) : Int) := by rw [IntKind.wrap_i64]; omega
      clear hrow hbk
      by_cases hk0 : k = 0
      · have hk1 : ¬ (0 : Int) < (k : Int) := by omega
        have HE0 : As (signS (ls.take k) = []) := ⟨by rw [hk0]; rfl⟩
        have HK0 := As.mk hk0
        clear hk0
        go_wp2_with fail
        refine (trimmedLine_any PA pn pc ys wr HPN.out hpc (by have := HYL.out; have := HPN.out; omega) (HBR.out.keep HC.out)).mono ?_
        rintro e w3 ⟨tm, rfl, rfl, htm, htr⟩
        have HTM : As (tm = (ys.take tm).length) := ⟨by rw [List.length_take]; have := HPN.out; omega⟩
        have HTR := As.mk htr
        have HRT := As.mk (HBR.out.take_ tm)
        have HL3 : As (((signS (ls.take k)).length + (ys.take tm).length) * 1 ≤ 140737488355328) := ⟨by have := HBK.out; have := HYL.out; rw [List.length_take]; omega⟩
        clear htr
        go_wp2_with (at_builtin; refine wpList_append_rk rfl _ _ 25 rfl 5 .u8 1 Tryd.underlying25 info8 (by decide) _ w1.heap.size (signS (ls.take k)) (ys.take tm) PA tm rfl (by rw [← HTM.out]; rfl) HO.out (HRT.out.keep HC.out) HC.out.size HL3.out ?_; intro v4 w4 ho4 hg4 hb4; obtain ⟨A4, c4, hv4, _, _⟩ := ow_form (ow_of ho4); generalize hm4 : (signS (ls.take k) ++ ys.take tm).length = m4 at hv4; clear hm4; subst hv4; have HO4 := As.mk ho4; have HC4 := As.mk (grown_chg hg4); clear ho4 hg4 hb4)
        go_roundw
        case rel => exact ⟨k + 1, A4, m4, c4, rfl, by omega, by go_num, ⟨by rw [HT.out, HTR.out, if_pos HK0.out]; have h := HO4.out; rw [HE0.out] at h; exact h⟩, ⟨HC.out.trans HC4.out (fun b hb e => by have := (own_block_lt HO.out b e).1; omega)⟩⟩
        case measure => simp [intOf]; omega
      · have hk1 : (0 : Int) < (k : Int) := by omega
        have HL13 : As (((signS (ls.take k)).length + 2) * 1 ≤ 140737488355328) := ⟨by have := HBK.out; omega⟩
        have HLT := As.mk (own_reads (own_lit wr 0 5 .u8 [13, 10] (Nat.zero_le _) (by decide)))
        have HOA := As.mk (own_keep HO.out ((Chg.refl NoB wr).alloc (.cells #[.int .u8 13, .int .u8 10] 5)))
        have HSZ : As (w1.heap.size ≤ (wr.alloc (.cells #[.int .u8 13, .int .u8 10] 5)).heap.size) := ⟨Nat.le_trans HC.out.size (Chg.size ((Chg.refl NoB wr).alloc _))⟩
        go_wp2_with (at_builtin; refine wpList_append_rk rfl _ _ 25 rfl 5 .u8 1 Tryd.underlying25 info8 (by decide) _ w1.heap.size (signS (ls.take k)) [13, 10] (some ⟨wr.heap.size, 0, none⟩) 2 rfl rfl HOA.out HLT.out HSZ.out HL13.out ?_; intro v2 w2 ho2 hg2 hb2; obtain ⟨A2, c2, hv2, _, _⟩ := ow_form (ow_of ho2); generalize hm2 : (signS (ls.take k) ++ [13, 10]).length = m2 at hv2; clear hm2; subst hv2; have HO2 := As.mk ho2; have HC2 := As.mk ((HC.out.alloc (.cells #[.int .u8 13, .int .u8 10] 5)).trans (grown_chg hg2) (fun b hb e => by have := (own_block_lt HO.out b e).1; omega)); clear ho2 hg2 hb2)
        refine (trimmedLine_any PA pn pc ys w2 HPN.out hpc (by have := HYL.out; have := HPN.out; omega) (HBR.out.keep HC2.out)).mono ?_
        rintro e w3 ⟨tm, rfl, rfl, htm, htr⟩
        have HTM : As (tm = (ys.take tm).length) := ⟨by rw [List.length_take]; have := HPN.out; omega⟩
        have HTR := As.mk htr
        have HRT := As.mk (HBR.out.take_ tm)
        have HL3 : As (((signS (ls.take k) ++ [13, 10]).length + (ys.take tm).length) * 1 ≤ 140737488355328) := ⟨by have := HBK.out; have := HYL.out; rw [List.length_take]; rw [List.length_append]; show (_ + 2 + _) * 1 ≤ _; omega⟩
        clear htr
        go_wp2_with (at_builtin; refine wpList_append_rk rfl _ _ 25 rfl 5 .u8 1 Tryd.underlying25 info8 (by decide) _ w1.heap.size (signS (ls.take k) ++ [13, 10]) (ys.take tm) PA tm rfl (by rw [← HTM.out]; rfl) HO2.out (HRT.out.keep HC2.out) HC2.out.size HL3.out ?_; intro v4 w4 ho4 hg4 hb4; obtain ⟨A4, c4, hv4, _, _⟩ := ow_form (ow_of ho4); generalize hm4 : (signS (ls.take k) ++ [13, 10] ++ ys.take tm).length = m4 at hv4; clear hm4; subst hv4; have HO4 := As.mk ho4; have HC4 := As.mk (grown_chg hg4); clear ho4 hg4 hb4)
        go_roundw
        case rel => exact ⟨k + 1, A4, m4, c4, rfl, by omega, by go_num, ⟨by rw [HT.out, HTR.out, if_neg hk0]; exact HO4.out⟩, ⟨HC2.out.trans HC4.out (fun b hb e => by have := (own_block_lt HO2.out b e).1; omega)⟩⟩
        case measure => simp [intOf]; omega
    · obtain rfl : k = m := by omega
      have hz : ¬ ((k : Int) < (k : Int)) := by omega
      go_wp2_with fail
      go_ret
      refine ⟨_, rfl, ?_, HC1.out.trans HC.out (fun _ _ e => e)⟩
      have h1 := HO.out
      rw [List.take_of_length_le (by have := HM.out; omega)] at h1
      exact own_lower h1 HC1.out.size
end Go.Proofs.YtphnjfbaioblbaaDoor
