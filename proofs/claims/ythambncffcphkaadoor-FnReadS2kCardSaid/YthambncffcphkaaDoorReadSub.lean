/- The contract of spec.ReadSub. -/
import Derived.Test.YthambncffcphkaaDoorNum
import Derived.Test.YthambncffcphkaaDoorSubP
import Derived.Laws.ResultCell
import Derived.Deep.RegionHeld3
import Derived.Deep.DeepCutAuto
import Derived.Deep.CutBlock
set_option linter.unusedVariables false
set_option linter.unusedSimpArgs false
namespace Go.Proofs.YthambncffcphkaaDoor
open Go.RowKit V
theorem results_cell_tmp2 {fn : Func} {p u v : Tmp} {ty : TypeId} (h : fn.results = #[.cell p ty, .tmp u, .tmp v]) (tmps : Array Value) (P : Program) (w : World) :
    (results fn tmps).run P w =
      ((asAddr (tmps.getD p undef)).run P w).andThen fun a w₁ => ((loadVar ty a).run P w₁).andThen fun x w₂ => .ok (.tuple #[x, tmps.getD u undef, tmps.getD v undef]) w₂ := by
  simp only [results, h]
  simp [Sem.run_bind, Result.andThen]
/-- What ReadSub answers. -/
def SubOf (w : World) (xs : List Int) (e : Ending) (w' : World) : Prop :=
  Chg NoB w w' ∧
  match sub1 xs with
  | none => ∃ h : Int, h ≠ 0 ∧ e = .returned (.tuple #[.agg #[.int .i64 0, .slice none 0 0, .slice none 0 0], .int .i64 0, .int .i64 h])
  | some (o, n) => ∃ (A1 : Option Addr) (c1 : Nat) (A2 : Option Addr) (c2 : Nat), e = .returned (.tuple #[.agg #[.int .i64 (rd xs o), .slice A1 o c1, .slice A2 (n - 1) c2], .int .i64 (o + n : Nat), .int .i64 0]) ∧ Rf (fun b => w.heap.size ≤ b) w' A1 (xs.take o) ∧ Rf (fun b => w.heap.size ≤ b) w' A2 ((xs.drop (o + 1)).take (n - 1))
theorem subOf_none {w w' : World} {xs : List Int} {h : Int} (h1 : sub1 xs = none) (h2 : h ≠ 0) (hc : Chg NoB w w') : SubOf w xs (.returned (.tuple #[.agg #[.int .i64 0, .slice none 0 0, .slice none 0 0], .int .i64 0, .int .i64 h])) w' :=
  ⟨hc, by rw [h1]; exact ⟨h, h2, rfl⟩⟩
set_option maxRecDepth 100000 in
set_option maxHeartbeats 8000000 in
theorem readSub_head (A : Option Addr) (L c o n : Nat) (xs : List Int) (w : World) (hn : L = xs.length) (hnc : L ≤ c) (hx : Rb w A xs) (hb : Byt xs) (hl : L ≤ 1048576) (hsub : subHead xs = some (o, n)) :
    Calls Tryd.prog 16 #[.slice A L c] w (SubOf w xs) := by
  have hpos := subHead_pos hsub
  obtain ⟨a0, hA, _⟩ := hx.at_ 0 (by omega) (by omega)
  subst hA
  have hrd0 := hb.rd 0
  have hrd1 := hb.rd 1
  have HF : As ((rd xs 0 < 192 ∧ o = 1 ∧ n = (rd xs 0).toNat) ∨ (192 ≤ rd xs 0 ∧ rd xs 0 < 255 ∧ 2 ≤ L ∧ o = 2 ∧ n = ((rd xs 0 - 192) * 256 + rd xs 1 + 192).toNat) ∨ (rd xs 0 = 255 ∧ 5 ≤ L ∧ o = 5 ∧ n = (numL (xs.tail.take 4)).toNat)) := ⟨by
    unfold subHead at hsub
    rw [if_neg (by omega)] at hsub
    by_cases h1 : rd xs 0 < 192
    · rw [if_pos h1] at hsub; injection hsub with h; injection h with e1 e2; exact .inl ⟨h1, e1.symm, e2.symm⟩
    · rw [if_neg h1] at hsub
      by_cases h2 : rd xs 0 < 255
      · rw [if_pos h2] at hsub
        by_cases h3 : xs.length < 2
        · rw [if_pos h3] at hsub; cases hsub
        · rw [if_neg h3] at hsub; injection hsub with h; injection h with e1 e2; exact .inr (.inl ⟨by omega, h2, by omega, e1.symm, e2.symm⟩)
      · rw [if_neg h2] at hsub
        by_cases h3 : xs.length < 5
        · rw [if_pos h3] at hsub; cases hsub
        · rw [if_neg h3] at hsub; injection hsub with h; injection h with e1 e2; exact .inr (.inr ⟨by omega, by omega, e1.symm, e2.symm⟩)⟩
  have hsh := As.mk hsub
  have HX := As.mk hx
  have HN := As.mk hn
  have HBY := As.mk hb
  have hLz : ((L : Int) == 0) = false := by simp; omega
  have HCA : As (∀ w', Chg NoB w w' → ∀ i : Nat, i < L → w'.cell? (a0.add i) = some (.int .u8 (rd xs i))) := ⟨fun w' hc i hi => by
    obtain ⟨ad, e, hc⟩ := (hx.keep hc).at_ (i : Int) (by omega) (by omega)
    injection e with e
    subst e
    simpa using hc⟩
  have hcA : ∀ o, (w.alloc o).cell? a0 = some (.int .u8 (rd xs 0)) := fun o => by
    have := HCA.out (w.alloc o) ((Chg.refl _ _).alloc o) 0 (by omega)
    simpa [Addr.add] using this
  have r01 := hrd0.1
  have r02 := hrd0.2
  have r11 := hrd1.1
  have r12 := hrd1.2
  have HNB : As (0 ≤ numL (xs.tail.take 4) ∧ numL (xs.tail.take 4) < 281474976710656) := ⟨by
    have h := numL_small (xs := xs.tail.take 4) (by rw [← List.drop_one]; exact (hb.drop 1).take 4) (xs.tail.take 4).length (Nat.le_refl _) (by rw [List.length_take]; omega)
    rwa [List.take_length] at h⟩
  have hLp : (0 : Int) < (L : Int) := by omega
  have hnb : (n : Int) ≤ 281474976710656 := by
    have := HNB.out
    rcases HF.out with h | h | h <;> omega
  have ho1 := hpos.1
  have ho5 := hpos.2.1
  have HOL : As (o ≤ L) := ⟨by omega⟩
  clear hx hn hb hsub hpos hrd0 hrd1
  go_enter Tryd.func16, Tryd.ntmps16
  go_upto_region 3 with fail
  go_quiet (fail)
  obtain ⟨w1, hw1⟩ : ∃ w1, w1 = (w.alloc (.cells #[.int .i64 0, .slice none 0 0, .slice none 0 0] 51)).drewN nq := ⟨_, rfl⟩
  have C1 : As (Chg NoB w w1) := ⟨by rw [hw1]; exact ((Chg.refl NoB w).alloc _).drewN nq⟩
  have BG : As (Blk w1 w.heap.size 51 [.int .i64 0, .slice none 0 0, .slice none 0 0]) := ⟨by rw [hw1]; exact (Blk.new w _ [.int .i64 0, .slice none 0 0, .slice none 0 0]).drewN nq⟩
  rw [← hw1]
  clear hw1 hcA
  go_upto_block 0 with fail
  go_cut [5, 6] (fun s5 s6 wx => s5 = .int .i64 (o : Int) ∧ s6 = .int .i64 (n : Int) ∧ As (Chg NoB w wx) ∧ As (Blk wx w.heap.size 51 [.int .i64 0, .slice none 0 0, .slice none 0 0]))
  case first =>
    rcases HF.out with ⟨h1, rfl, hN⟩ | ⟨h1, h2, h3, rfl, hN⟩ | ⟨h1, h3, rfl, hN⟩
    · have hN2 : ((n : Nat) : Int) = rd xs 0 := by omega
      have HN2 := As.mk hN2
      clear hN hN2
      generalize rd xs 0 = f at *
      go_wp2_with fail
      go_meet
      case rel => exact ⟨rfl, by rw [HN2.out], C1, BG⟩
    · have hN2 : ((n : Nat) : Int) = (rd xs 0 - 192) * 256 + rd xs 1 + 192 := by omega
      have HN2 := As.mk hN2
      have hc1 := HCA.out w1 C1.out 1 (by omega)
      simp [Addr.add] at hc1
      have hlt : (1 : Int) < (L : Int) := by omega
      clear hN hN2
      generalize rd xs 0 = f at *
      generalize rd xs 1 = f1 at *
      go_wp2_with fail
      go_quiet (fail)
      go_wp2_with fail
      go_meet
      case rel => exact ⟨rfl, by rw [HN2.out], ⟨C1.out.drewN _⟩, ⟨BG.out.drewN _⟩⟩
    · have hN2 : ((n : Nat) : Int) = numL (xs.tail.take 4) := by have := HNB.out; omega
      have HN2 := As.mk hN2
      obtain ⟨A2, hcut, _, hA2⟩ := cut_mid (P := Tryd.prog) 22 5 Tryd.underlying22 size8 (some a0) L c 1 5 .i64 .i64 4 (c - 1) (by omega) (by omega) (by omega) (by omega)
      have hA3 := hA2 w1 .u8 xs (by have := HN.out; omega) (by have := HN.out; omega) (HX.out.keep C1.out)
      rw [show (1 : Int).toNat = 1 from rfl, List.drop_one] at hA3
      have HA3 := As.mk hA3
      have HL4 : As (4 = (xs.tail.take 4).length) := ⟨by have := HN.out; rw [List.length_take, List.length_tail]; omega⟩
      have HB4 : As (Byt (xs.tail.take 4)) := ⟨by rw [← List.drop_one]; exact (HBY.out.drop 1).take 4⟩
      clear hN hN2 hA2 hA3
      rw [h1] at *
      clear h1
      go_wp2_with fail
      refine (number_any A2 4 (c - 1) (xs.tail.take 4) _ HL4.out HA3.out HB4.out (by omega)).mono ?_
      rintro e w2 ⟨rfl, rfl⟩
      go_wp2_with fail
      go_meet
      case rel => exact ⟨rfl, by rw [HN2.out], C1, BG⟩
  case rest =>
    obtain ⟨rfl, rfl, HC, HBk⟩ := hcut
    have bg := HBk.out
    have x0 := bg.cell 0
    have x1 := bg.cell 1
    have x2 := bg.cell 2
    have y0 := bg.frozen 0
    have y1 := bg.frozen 1
    have y2 := bg.frozen 2
    simp only [List.getElem?_cons_zero, List.getElem?_cons_succ] at x0 x1 x2
    clear bg
    have hwlo : IntKind.i64.wrap ((L : Int) - (o : Int)) = (L : Int) - (o : Int) := by have := HOL.out; simp [IntKind.wrap, IntKind.bits, IntKind.signed]; omega
    by_cases hz : n = 0
    · have HE : As (sub1 xs = none) := ⟨by unfold sub1; rw [hsh.out, hz]; rfl⟩
      subst hz
      go_wp2_with fail
      refine bodyPost_ret (v := .tuple #[.agg #[.int .i64 0, .slice none 0 0, .slice none 0 0], .int .i64 0, .int .i64 2]) ?_ rfl (subOf_none HE.out (by decide) (by repeat (first | exact HC.out | (refine Chg.setCell ?_ _ (fun h => absurd h (Nat.lt_irrefl _))))))
      · rw [results_cell_tmp2 rfl]
        go_simp
    · have hfz : ((n : Int) == 0) = false := by simp; omega
      by_cases hs : L < o + n
      · have HE : As (sub1 xs = none) := ⟨by unfold sub1; rw [hsh.out]; have := HN.out; simp; omega⟩
        have hlt : (L : Int) - (o : Int) < (n : Int) := by omega
        go_wp2_with fail
        refine bodyPost_ret (v := .tuple #[.agg #[.int .i64 0, .slice none 0 0, .slice none 0 0], .int .i64 0, .int .i64 1]) ?_ rfl (subOf_none HE.out (by decide) (by repeat (first | exact HC.out | (refine Chg.setCell ?_ _ (fun h => absurd h (Nat.lt_irrefl _))))))
        · rw [results_cell_tmp2 rfl]
          go_simp
      · have hnlt : ¬ (L : Int) - (o : Int) < (n : Int) := by omega
        have hlen := HN.out
        have hle : o + n ≤ L := by omega
        obtain ⟨t, ht⟩ : ∃ t, t = o + n := ⟨_, rfl⟩
        have hwt : IntKind.i64.wrap ((o : Int) + (n : Int)) = (t : Int) := by rw [ht]; simp [IntKind.wrap, IntKind.bits, IntKind.signed]; omega
        obtain ⟨p, hp⟩ : ∃ p, p = o + 1 := ⟨_, rfl⟩
        have hwp : IntKind.i64.wrap ((o : Int) + 1) = (p : Int) := by rw [hp]; simp [IntKind.wrap, IntKind.bits, IntKind.signed]; omega
        have HT := As.mk ht
        have HP := As.mk hp
        obtain ⟨cq, hcq⟩ : ∃ q, q = rd xs (o : Int) := ⟨_, rfl⟩
        have hcq0 : 0 ≤ cq := by rw [hcq]; exact (HBY.out.rd o).1
        have hcq1 : cq ≤ 255 := by rw [hcq]; exact (HBY.out.rd o).2
        have hab : a0.block < w.heap.size := by
          obtain ⟨ad, e, h, _⟩ := HX.out.2 (by omega)
          injection e with e
          subst e
          exact h
        have HXC := As.mk (HX.out.keep HC.out)
        have KQ : As (∀ w', Chg (fun b => b = w.heap.size) wc w' → w'.cell? (a0.add o) = some (.int .u8 cq)) := ⟨fun w' h => by
          rw [h.cell (p := a0.add o) (by rw [add_block]; exact Nat.lt_of_lt_of_le hab HC.out.size) (by rw [add_block]; omega), HCA.out wc HC.out o (by omega), hcq]⟩
        have hcut := cut_to (P := Tryd.prog) 22 5 Tryd.underlying22 size8 (some a0) L c (o : Int) .i64 o rfl (by omega)
        obtain ⟨A2, hcut2, _, hA2⟩ := cut_mid (P := Tryd.prog) 22 5 Tryd.underlying22 size8 (some a0) L c (p : Int) (t : Int) .i64 .i64 (n - 1) (c - p) (by omega) (by omega) (by omega) (by omega)
        have KA : As (∀ w', Rb w' (some a0) xs → Rb w' A2 ((xs.drop (o + 1)).take (n - 1))) := ⟨fun w' h => by have := hA2 w' .u8 xs (by omega) (by omega) h; rwa [Int.toNat_natCast, hp] at this⟩
        have HE : As (sub1 xs = some (o, n)) := ⟨by unfold sub1; rw [hsh.out]; simp; omega⟩
        have HL1 : As (o = (xs.take o).length) := ⟨by rw [List.length_take]; omega⟩
        have HL2 : As (n - 1 = ((xs.drop (o + 1)).take (n - 1)).length) := ⟨by rw [List.length_take, List.length_drop]; omega⟩
        have HLM : As ((xs.take o).length ≤ 1048576 ∧ ((xs.drop (o + 1)).take (n - 1)).length ≤ 1048576) := ⟨by rw [List.length_take, List.length_take, List.length_drop]; omega⟩
        have hwcq : IntKind.i64.wrap cq = cq := by simp [IntKind.wrap, IntKind.bits, IntKind.signed]; omega
        have q0 := KQ.out _ (Chg.refl _ wc)
        have HB : As (Chg NoB wc wc) := ⟨Chg.refl _ _⟩
        have HCQ := As.mk hcq
        have HZ1 : As (w.heap.size + 1 ≤ wc.heap.size) := ⟨HBk.out.lt⟩
        have hbd : (o : Int) < (L : Int) := by omega
        have htp : (p : Int) ≤ (t : Int) := by omega
        have htc : (t : Int) ≤ (c : Int) := by omega
        clear hA2 hlen hcq ht hp hs hz
        go_upto_region 16 with fail
        go_cut [5] (fun s5 wx => s5 = .int .i64 (o : Int) ∧ ∃ (A1 : Option Addr) (c1 : Nat) (A2 : Option Addr) (c2 : Nat), As (Chg NoB w wx) ∧ As (Blk wx w.heap.size 51 [.int .i64 cq, .slice A1 o c1, .slice A2 (n - 1) c2]) ∧ As (Rf (fun b => w.heap.size + 1 ≤ b) wx A1 (xs.take o)) ∧ As (Rf (fun b => w.heap.size + 1 ≤ b) wx A2 ((xs.drop (o + 1)).take (n - 1))))
        case first =>
          go_region_held3 (fun w' => w'.cell? (a0.add o) = some (.int .u8 cq)) (exact KQ.out _ (by repeat (first | exact HB.out.mono (fun _ _ e => e.elim) | (with_reducible apply Chg.drew) | (with_reducible apply Chg.alloc) | (refine Chg.setCell ?_ _ (fun _ => rfl))))) (first
          | (refine step_append_e (N := 60) rfl rfl _ _ 22 rfl 5 .u8 1 Tryd.underlying22 info8 (by decide) _ (w.heap.size + 1) (xs.take o) (some a0) o c rfl rfl HL1.out ((HXC.out.keep ?r1).take_ o) ?r2 ?r3 ?_
             case r1 => exact (by repeat (first | exact HB.out | (with_reducible apply Chg.drew) | (with_reducible apply Chg.alloc)))
             case r2 => exact Nat.le_trans HZ1.out (Chg.size (S := NoB) (by repeat (first | exact HB.out | (with_reducible apply Chg.drew) | (with_reducible apply Chg.alloc))))
             case r3 => (have := HLM.out; omega)
             intro v60 w60 ho60 hc60
             obtain ⟨A60, c60, hv60, _, _⟩ := ow_form ho60
             rw [← HL1.out] at hv60
             subst hv60
             have HO60 := As.mk (Rf.of_ow ho60 (Nat.le_refl _))
             clear ho60
             have HB60 : As (Chg NoB wc w60) := ⟨Chg.trans (by repeat (first | exact HB.out | (with_reducible apply Chg.drew) | (with_reducible apply Chg.alloc))) hc60 (fun _ _ e => e)⟩
             have b60 := HBk.out.chg HB60.out (fun e => e)
             have x0_60 := b60.cell 0
             have x1_60 := b60.cell 1
             have x2_60 := b60.cell 2
             have y0_60 := b60.frozen 0
             have y1_60 := b60.frozen 1
             have y2_60 := b60.frozen 2
             simp only [List.getElem?_cons_zero, List.getElem?_cons_succ] at x0_60 x1_60 x2_60
             clear HB hc60 b60
             have HB := HB60
             clear HB60)
          | (refine step_append_e (N := 69) rfl rfl _ _ 22 rfl 5 .u8 1 Tryd.underlying22 info8 (by decide) _ (w.heap.size + 1) ((xs.drop (o + 1)).take (n - 1)) A2 (n - 1) (c - p) rfl rfl HL2.out (KA.out _ (HXC.out.keep ?r1)) ?r2 ?r3 ?_
             case r1 => exact (by repeat (first | exact HB.out | (with_reducible apply Chg.drew) | (with_reducible apply Chg.alloc)))
             case r2 => exact Nat.le_trans HZ1.out (Chg.size (S := NoB) (by repeat (first | exact HB.out | (with_reducible apply Chg.drew) | (with_reducible apply Chg.alloc))))
             case r3 => (have := HLM.out; omega)
             intro v69 w69 ho69 hc69
             obtain ⟨A69, c69, hv69, _, _⟩ := ow_form ho69
             rw [← HL2.out] at hv69
             subst hv69
             have HO69 := As.mk (Rf.of_ow ho69 (Nat.le_refl _))
             have HO60b := As.mk (HO60.out.keep (Chg.trans (S := NoB) (by repeat (first | exact Chg.refl _ _ | (with_reducible apply Chg.drew) | (with_reducible apply Chg.alloc))) hc69 (fun _ _ e => e)))
             clear ho69 HO60
             have HB69 : As (Chg NoB wc w69) := ⟨Chg.trans (by repeat (first | exact HB.out | (with_reducible apply Chg.drew) | (with_reducible apply Chg.alloc))) hc69 (fun _ _ e => e)⟩
             have b69 := HBk.out.chg HB69.out (fun e => e)
             have x0_69 := b69.cell 0
             have x1_69 := b69.cell 1
             have x2_69 := b69.cell 2
             have y0_69 := b69.frozen 0
             have y1_69 := b69.frozen 1
             have y2_69 := b69.frozen 2
             simp only [List.getElem?_cons_zero, List.getElem?_cons_succ] at x0_69 x1_69 x2_69
             clear HB hc69 b69
             have HB := HB69
             clear HB69))
          all_goals
            go_wp2_with fail
            go_meet
            have hfin := Chg.setCell (Chg.setCell (Chg.setCell (Chg.refl (fun b => b = w.heap.size) w69) (p := ⟨w.heap.size, 0, none⟩) (.int .i64 cq) (fun _ => rfl)) (p := ⟨w.heap.size, 1, none⟩) (.slice A60 o c60) (fun _ => rfl)) (p := ⟨w.heap.size, 2, none⟩) (.slice A69 (n - 1) c69) (fun _ => rfl)
            exact ⟨rfl, A60, c60, A69, c69, ⟨(HC.out.trans HB.out (fun _ _ e => e)).trans (S' := fun b => b = w.heap.size) hfin (fun i hi e => by omega)⟩, ⟨(((HBk.out.chg HB.out (fun e => e)).set_ 0 _).set_ 1 _).set_ 2 _⟩, ⟨HO60b.out.chg (S := fun b => b = w.heap.size) hfin (fun b _ hb e => by omega)⟩, ⟨HO69.out.chg (S := fun b => b = w.heap.size) hfin (fun b _ hb e => by omega)⟩⟩
        case rest =>
          obtain ⟨rfl, A60, c60, A69, c69, C2, B2, F1, F2⟩ := hcut
          have b2 := B2.out
          have z0 := b2.cell 0
          have z1 := b2.cell 1
          have z2 := b2.cell 2
          have v0 := b2.frozen 0
          have v1 := b2.frozen 1
          have v2 := b2.frozen 2
          simp only [List.getElem?_cons_zero, List.getElem?_cons_succ] at z0 z1 z2
          clear x0 x1 x2 y0 y1 y2 b2 hcut2 q0
          obtain ⟨wx, hwx⟩ : ∃ wx : World, As (wx = wc) := ⟨_, ⟨rfl⟩⟩
          go_wp2_with fail
          have hfin := Chg.setCell (Chg.setCell (Chg.setCell (Chg.refl (fun b => b = w.heap.size) wc) (p := ⟨w.heap.size, 0, none⟩) (.int .i64 cq) (fun _ => rfl)) (p := ⟨w.heap.size, 1, none⟩) (.slice A60 o c60) (fun _ => rfl)) (p := ⟨w.heap.size, 2, none⟩) (.slice A69 (n - 1) c69) (fun _ => rfl)
          have bf : Blk _ w.heap.size 51 [.int .i64 cq, .slice A60 o c60, .slice A69 (n - 1) c69] := ((B2.out.set_ 0 (.int .i64 cq)).set_ 1 (.slice A60 o c60)).set_ 2 (.slice A69 (n - 1) c69)
          generalize ((wc.setCell ⟨w.heap.size, 0, none⟩ (.int .i64 cq)).setCell ⟨w.heap.size, 1, none⟩ (.slice A60 o c60)).setCell ⟨w.heap.size, 2, none⟩ (.slice A69 (n - 1) c69) = wf at *
          have t0 := bf.cell 0
          have t1 := bf.cell 1
          have t2 := bf.cell 2
          simp only [List.getElem?_cons_zero, List.getElem?_cons_succ] at t0 t1 t2
          clear bf
          refine bodyPost_ret (v := .tuple #[.agg #[.int .i64 cq, .slice A60 o c60, .slice A69 (n - 1) c69], .int .i64 (t : Int), .int .i64 0]) ?_ rfl ?_
          · rw [results_cell_tmp2 rfl]
            go_simp
          · refine ⟨C2.out.trans (S' := fun b => b = w.heap.size) hfin (fun i hi e => by omega), ?_⟩
            rw [HE.out]
            exact ⟨A60, c60, A69, c69, by rw [← HCQ.out, ← HT.out], (F1.out.chg (S := fun b => b = w.heap.size) hfin (fun b _ hb e => by omega)).mono (fun b _ hb => by omega), (F2.out.chg (S := fun b => b = w.heap.size) hfin (fun b _ hb e => by omega)).mono (fun b _ hb => by omega)⟩
set_option maxRecDepth 100000 in
set_option maxHeartbeats 2000000 in
theorem readSub_none (A : Option Addr) (L c : Nat) (xs : List Int) (w : World) (hn : L = xs.length) (hx : Rb w A xs) (hb : Byt xs) (hl : L ≤ 1048576) (hsub : subHead xs = none) :
    Calls Tryd.prog 16 #[.slice A L c] w (SubOf w xs) := by
  have HE : As (sub1 xs = none) := ⟨by unfold sub1; rw [hsub]⟩
  have HSH : As (L = 0 ∨ 0 < L ∧ L < 2 ∧ 192 ≤ rd xs 0 ∧ rd xs 0 < 255 ∨ 0 < L ∧ L < 5 ∧ rd xs 0 = 255) := ⟨by
    have := (hb.rd 0).2
    unfold subHead at hsub
    by_cases h0 : xs.length = 0
    · exact .inl (by omega)
    · rw [if_neg h0] at hsub
      by_cases h1 : rd xs 0 < 192
      · rw [if_pos h1] at hsub; cases hsub
      · rw [if_neg h1] at hsub
        by_cases h2 : rd xs 0 < 255
        · rw [if_pos h2] at hsub
          by_cases h3 : xs.length < 2
          · exact .inr (.inl ⟨by omega, by omega, by omega, h2⟩)
          · rw [if_neg h3] at hsub; cases hsub
        · rw [if_neg h2] at hsub
          by_cases h3 : xs.length < 5
          · exact .inr (.inr ⟨by omega, by omega, by omega⟩)
          · rw [if_neg h3] at hsub; cases hsub⟩
  have HX := As.mk hx
  have HN := As.mk hn
  clear hx hn hb hsub
  rcases HSH.out with h0 | ⟨h0, h1, h2, h3⟩ | ⟨h0, h1, h2⟩
  · subst h0
    go_enter Tryd.func16, Tryd.ntmps16
    go_wp2_with fail
    refine bodyPost_ret (v := .tuple #[.agg #[.int .i64 0, .slice none 0 0, .slice none 0 0], .int .i64 0, .int .i64 1]) ?_ rfl (subOf_none HE.out (by decide) (by repeat (first | exact Chg.refl _ _ | exact (Chg.refl _ _).alloc _ | (refine Chg.setCell ?_ _ (fun h => absurd h (Nat.lt_irrefl _))))))
    · rw [results_cell_tmp2 rfl]
      go_simp
  all_goals
    obtain ⟨a0, rfl, hc0⟩ := HX.out.at_ 0 (by omega) (by have := HN.out; omega)
    have hcA : ∀ o, (w.alloc o).cell? a0 = some (.int .u8 (rd xs 0)) := fun o => by
      obtain ⟨ad, e, hc⟩ := (HX.out.alloc o).at_ 0 (by omega) (by have := HN.out; omega)
      injection e with e
      subst e
      simpa [Addr.add] using hc
    have hLz : ((L : Int) == 0) = false := by simp; omega
    have hLp : (0 : Int) < (L : Int) := by omega
    clear hc0
    first | rw [h2] at * | skip
    generalize rd xs 0 = f at *
    go_enter Tryd.func16, Tryd.ntmps16
    go_upto_region 3 with fail
    go_quiet (fail)
    obtain ⟨w1, hw1⟩ : ∃ w1, w1 = (w.alloc (.cells #[.int .i64 0, .slice none 0 0, .slice none 0 0] 51)).drewN nq := ⟨_, rfl⟩
    have C1 : As (Chg NoB w w1) := ⟨by rw [hw1]; exact ((Chg.refl NoB w).alloc _).drewN nq⟩
    have BG : As (Blk w1 w.heap.size 51 [.int .i64 0, .slice none 0 0, .slice none 0 0]) := ⟨by rw [hw1]; exact (Blk.new w _ [.int .i64 0, .slice none 0 0, .slice none 0 0]).drewN nq⟩
    rw [← hw1]
    clear hw1 hcA
    have bg := BG.out
    have x0 := bg.cell 0
    have x1 := bg.cell 1
    have x2 := bg.cell 2
    have y0 := bg.frozen 0
    have y1 := bg.frozen 1
    have y2 := bg.frozen 2
    simp only [List.getElem?_cons_zero, List.getElem?_cons_succ] at x0 x1 x2
    clear bg
    go_wp2_with fail
    refine bodyPost_ret (v := .tuple #[.agg #[.int .i64 0, .slice none 0 0, .slice none 0 0], .int .i64 0, .int .i64 1]) ?_ rfl (subOf_none HE.out (by decide) (by repeat (first | exact C1.out | (refine Chg.setCell ?_ _ (fun h => absurd h (Nat.lt_irrefl _))))))
    · rw [results_cell_tmp2 rfl]
      go_simp
theorem readSub_any (A : Option Addr) (L c : Nat) (xs : List Int) (w : World) (hn : L = xs.length) (hnc : L ≤ c) (hx : Rb w A xs) (hb : Byt xs) (hl : L ≤ 1048576) :
    Calls Tryd.prog 16 #[.slice A L c] w (SubOf w xs) := by
  cases h : subHead xs with
  | none => exact readSub_none A L c xs w hn hx hb hl h
  | some p => exact readSub_head A L c p.1 p.2 xs w hn hnc hx hb hl h
end Go.Proofs.YthambncffcphkaaDoor
