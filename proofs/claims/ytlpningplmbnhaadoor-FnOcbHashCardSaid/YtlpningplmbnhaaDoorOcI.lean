/- The contract of ocb.initializeMaskTable. -/
import Derived.Test.YtlpningplmbnhaaDoorOcP
import Derived.Test.YtlpningplmbnhaaDoorEnc
set_option linter.unusedVariables false
set_option linter.unusedSimpArgs false
namespace Go.Proofs.YtlpningplmbnhaaDoor
open Go.RowKit V
theorem na_bs (a : Addr) (w : World) : (nilAhead 193 59 (.pointer (some a)) "BlockSize").run Tryd.prog w = .ok (some false) w := by kernel_rfl
theorem me_bs (a : Addr) (w : World) : (method 193 59 (.pointer (some a)) "BlockSize").run Tryd.prog w = .ok (55, .pointer (some a)) w := by kernel_rfl
theorem na_en (a : Addr) (w : World) : (nilAhead 193 59 (.pointer (some a)) "Encrypt").run Tryd.prog w = .ok (some false) w := by kernel_rfl
theorem me_en (a : Addr) (w : World) : (method 193 59 (.pointer (some a)) "Encrypt").run Tryd.prog w = .ok (57, .pointer (some a)) w := by kernel_rfl
theorem results_cell_one {fn : Func} {p : Tmp} {ty : TypeId} (h : fn.results = #[.cell p ty]) (tmps : Array Value) (P : Program) (w : World) :
    (results fn tmps).run P w = ((asAddr (tmps.getD p undef)).run P w).andThen fun a w₁ => (loadVar ty a).run P w₁ := by
  simp only [results, h]
  simp [Sem.run_bind, Result.andThen]
theorem blk_row {w : World} {base g : Nat} {e : TypeId} {cs : List Value} (h : Blk w g e cs) (hb : base ≤ g) (hm : cs.length ≤ maxLen) : w.ownsRow base e 1 (.slice (some ⟨g, 0, none⟩) cs.length cs.length) cs.length cs :=
  ⟨by simp, .inr ⟨g, cs.length, cs.toArray, rfl, hb, h, Nat.le_refl _, hm, by simp, by simp⟩⟩
theorem splice_all {zs ys : List Int} (h : ys.length = zs.length) : splice zs 0 ys = ys := by
  have e : List.drop (0 + ys.length) zs = [] := List.drop_eq_nil_of_le (by omega)
  unfold splice
  rw [e]
  simp
theorem make_rows (W : World) : (Instr.makeSlice 35 (.int .i64 1) (.int .i64 1)).run Tryd.prog W = .ok (.slice (some ⟨W.heap.size, 0, none⟩) 1 1) (W.alloc (.cells #[.slice none 0 0] 22)) :=
  by
  have h := run_make_row' 35 22 (.slice none 0 0) 24 Tryd.underlying35 infoRow rfl .i64 .i64 1 (by decide) (by decide) W
  rw [show madeCells #[Value.slice none 0 0] 1 = #[.slice none 0 0] from Array.toList_inj.1 (by rw [toList_madeCells_one]; rfl)] at h
  exact h
/-- The masks as they are made. -/
def MaskOf (w : World) (perm sub mask : List Int) (e : Ending) (w' : World) : Prop :=
  ∃ (gA gD cD gL : Nat), e = .returned (.agg #[.slice (some ⟨gA, 0, none⟩) 16 16, .slice (some ⟨gD, 0, none⟩) 16 cD, .slice (some ⟨gL, 0, none⟩) 1 1]) ∧ Chg NoB w w' ∧ w.heap.size ≤ gA ∧ gA < w'.heap.size ∧ Rb w' (some ⟨gA, 0, none⟩) (lAstL perm sub mask) ∧
    Rws (fun b => w.heap.size ≤ b ∧ b ≠ gA) w' w.heap.size 22 (.slice (some ⟨gL, 0, none⟩) 1 1) [lAtL perm sub mask 0] ∧ w.heap.size ≤ gL ∧ gL ≠ gA
set_option maxRecDepth 100000 in
set_option maxHeartbeats 2000000 in
theorem mask_any {w : World} {lo hi B : Nat} {perm sub mask : List Int} (hC : Cph w lo hi B perm sub mask) (hr : RightB perm sub 16) (hm : mask.length = 16) (bs : Byt sub) (bm : Byt mask) (hhi : hi ≤ w.heap.size) :
    Calls Tryd.prog 23 #[cphV B] w (MaskOf w perm sub mask) := by
  have CB := As.mk hC
  have HR := As.mk hr
  have HM := As.mk hm
  have HBY := As.mk (And.intro bs bm)
  have HHI := As.mk hhi
  have na := na_bs
  have me := me_bs
  have nb := na_en
  have mf := me_en
  have mr := make_rows
  clear hC hr hm bs bm hhi
  obtain ⟨w0, hw0⟩ : ∃ w0, w0 = w.alloc (.cells #[.slice none 0 0, .slice none 0 0, .slice none 0 0] 53) := ⟨_, rfl⟩
  have C0 : As (Chg NoB w w0) := ⟨by rw [hw0]; exact (Chg.refl NoB w).alloc _⟩
  have B0 : As (Blk w0 w.heap.size 53 [.slice none 0 0, .slice none 0 0, .slice none 0 0]) := ⟨by rw [hw0]; exact Blk.new _ _ _⟩
  obtain ⟨g0, hg0⟩ : ∃ g0, g0 = w.heap.size := ⟨_, rfl⟩
  have HG0 := As.mk hg0
  go_enter Tryd.func23, Tryd.ntmps23
  go_upto_region 1 with fail
  rw [← hw0, ← hg0]
  rw [← hg0] at B0
  clear hw0 hg0
  go_wp2_with fail
  refine (blockSize_any (CB.out.keep C0.out) HM.out).mono ?_
  rintro e1 w1 ⟨rfl, rfl⟩
  go_wp2_with ((with_reducible refine gate (N := 8) rfl ?_); refine wpList_make_k rfl _ 22 rfl 5 .u8 1 Tryd.underlying22 info8 (by decide) 16 _ rfl rfl (by omega) ?_
               intro w2 gA HGA ho2 hc2 hz2
               have O2 := As.mk ho2
               have C2 : As (Chg NoB w w2) := ⟨C0.out.trans hc2 (fun _ _ e => e)⟩
               have B2 := As.mk (B0.out.chg hc2 (fun e => e))
               have HZ2 := As.mk hz2
               clear ho2 hc2 hz2)
  have HAB : As (g0 < gA ∧ gA < w2.heap.size) := ⟨⟨by rw [HGA.out]; exact B0.out.lt, (own_blocks O2.out).2⟩⟩
  refine (encrypt_any (N := 16) (off := 0) (CB.out.keep C2.out) HR.out HM.out HBY.out.1 HBY.out.2 O2.out (by omega) (by omega) (own_reads O2.out) (zeros_byt 16) (by simp) (by omega)).mono ?_
  rintro e3 w3 ⟨rfl, ho3, hc3⟩
  have hsp : splice (List.replicate 16 (0 : Int)) 0 (encL perm sub mask (List.replicate 16 0)) = lAstL perm sub mask := by
    exact splice_all (by rw [encL_length, List.length_replicate]; exact HM.out)
  rw [hsp] at ho3
  have O3 := As.mk ho3
  have C3 : As (Chg NoB w w3) := ⟨C2.out.trans hc3 (fun b hb e => by have := HAB.out; have := HG0.out; omega)⟩
  have B3 := As.mk (B2.out.chg hc3 (fun e => by have := HAB.out; omega))
  have HAB3 : As (g0 < gA ∧ gA < w3.heap.size) := ⟨⟨HAB.out.1, (own_blocks O3.out).2⟩⟩
  clear ho3 hc3 hsp
  go_wp2_with fail
  refine (gfn_any (some ⟨gA, 0, none⟩) 16 (lAstL perm sub mask) w3 (lAstL_length HM.out) (own_reads O3.out) (lAstL_byt HBY.out.1 HBY.out.2)).mono ?_
  rintro e4 w4 ⟨v4, rfl, ho4, hc4⟩
  obtain ⟨gD, cD, hv4, _, _, _⟩ := own_form_pos ho4 (by rw [dbl_length]; omega)
  rw [dbl_length] at hv4
  subst hv4
  have R4 := As.mk (own_reads ho4)
  have C4 : As (Chg NoB w w4) := ⟨C3.out.trans hc4 (fun _ _ e => e)⟩
  have B4 := As.mk (B3.out.chg hc4 (fun e => e))
  have RA4 := As.mk ((own_reads O3.out).keep hc4)
  have HAB4 : As (g0 < gA ∧ gA < w4.heap.size) := ⟨⟨HAB3.out.1, Nat.lt_of_lt_of_le HAB3.out.2 hc4.size⟩⟩
  clear ho4 hc4
  obtain ⟨w5, hw5⟩ : ∃ w5, w5 = w4.alloc (.cells #[.slice none 0 0] 22) := ⟨_, rfl⟩
  have C45 : As (Chg NoB w4 w5) := ⟨by rw [hw5]; exact (Chg.refl NoB w4).alloc _⟩
  have L5 : As (Blk w5 w4.heap.size 22 [.slice none 0 0]) := ⟨by rw [hw5]; exact Blk.new _ _ _⟩
  obtain ⟨gL, hgL⟩ : ∃ gL, gL = w4.heap.size := ⟨_, rfl⟩
  have HGL := As.mk hgL
  rw [← hgL] at L5
  go_upto_region 5 with fail
  rw [← hw5, ← hgL]
  clear hw5 hgL
  go_wp2_with fail
  refine (gfn_any (some ⟨gD, 0, none⟩) cD (dbl (lAstL perm sub mask)) w5 (dbl_length _) (R4.out.keep C45.out) (dbl_byt _)).mono ?_
  rintro e6 w6 ⟨v6, rfl, ho6, hc6⟩
  obtain ⟨gB, cB, hv6, hcB, hgB, hgB2⟩ := own_form_pos ho6 (by rw [dbl_length]; omega)
  rw [dbl_length] at hv6 hcB
  subst hv6
  have O6 := As.mk ho6
  have HGB := As.mk (And.intro hcB (And.intro hgB hgB2))
  have C6 : As (Chg NoB w w6) := ⟨(C4.out.trans C45.out (fun _ _ e => e)).trans hc6 (fun _ _ e => e)⟩
  have B6 := As.mk ((B4.out.chg C45.out (fun e => e)).chg hc6 (fun e => e))
  have L6 := As.mk (L5.out.chg hc6 (fun e => e))
  have RA6 := As.mk ((RA4.out.keep C45.out).keep hc6)
  have hll := L6.out.cell 0
  have hlf := L6.out.frozen 0
  have hne : gL ≠ g0 := by have := HAB4.out; have := HGL.out; omega
  have hne2 : g0 ≠ gL := fun e => hne e.symm
  have L7 := As.mk (L6.out.set_ 0 (.slice (some ⟨gB, 0, none⟩) 16 cB))
  have b0 := B6.out.cell 0
  have b1 := B6.out.cell 1
  have b2 := B6.out.cell 2
  have bf0 := B6.out.frozen 0
  have bf1 := B6.out.frozen 1
  have bf2 := B6.out.frozen 2
  simp only [List.getElem?_cons_zero, List.getElem?_cons_succ] at hll b0 b1 b2
  have HX : As (g0 = w.heap.size ∧ g0 < gA ∧ gA < w4.heap.size ∧ gL = w4.heap.size ∧ w4.heap.size < gB ∧ gB < w6.heap.size) := ⟨by
    have h1 := HG0.out; have h2 := HAB4.out; have h3 := HGL.out; have h4 := HGB.out; have h5 := L5.out.lt
    exact ⟨h1, h2.1, h2.2, h3, by omega, h4.2.2⟩⟩
  clear ho6 hc6 hcB hgB hgB2
  go_wp2_with fail
  have hfin : Chg (fun b => b = g0 ∨ b = gL) w6 _ := ((((Chg.refl _ w6).setCell (p := ⟨gL, 0, none⟩) (.slice (some ⟨gB, 0, none⟩) 16 cB) (fun _ => .inr rfl)).setCell (p := ⟨g0, 0, none⟩) (.slice (some ⟨gA, 0, none⟩) 16 16) (fun _ => .inl rfl)).setCell (p := ⟨g0, 1, none⟩) (.slice (some ⟨gD, 0, none⟩) 16 cD) (fun _ => .inl rfl)).setCell (p := ⟨g0, 2, none⟩) (.slice (some ⟨gL, 0, none⟩) 1 1) (fun _ => .inl rfl)
  have hL : Blk _ gL 22 [.slice (some ⟨gB, 0, none⟩) 16 cB] := ((L7.out.far (p := ⟨g0, 0, none⟩) hne (.slice (some ⟨gA, 0, none⟩) 16 16)).far (p := ⟨g0, 1, none⟩) hne (.slice (some ⟨gD, 0, none⟩) 16 cD)).far (p := ⟨g0, 2, none⟩) hne (.slice (some ⟨gL, 0, none⟩) 1 1)
  refine bodyPost_ret (v := .agg #[.slice (some ⟨gA, 0, none⟩) 16 16, .slice (some ⟨gD, 0, none⟩) 16 cD, .slice (some ⟨gL, 0, none⟩) 1 1]) ?_ rfl ?_
  · rw [results_cell_one rfl]
    clear hfin hL
    go_simp
  · have hx := HX.out
    refine ⟨gA, gD, cD, gL, rfl, C6.out.trans hfin (fun b hb e => by omega), by omega, Nat.lt_of_lt_of_le (by omega) hfin.size, RA6.out.chg hfin (fun ad e _ h => by injection e with e; subst e; rcases h with h | h <;> (have h2 : gA = _ := h; omega)), ⟨[(some ⟨gB, 0, none⟩, 16, cB)], rfl, blk_row hL (by omega) (by simp [maxLen]), fun i p xs h1 h2 => ?_⟩, by omega, by omega⟩
    · have hi : i = 0 := by
        rcases i with _ | i
        · rfl
        · simp at h1
      subst hi
      simp at h1 h2
      subst h1 h2
      refine ⟨(lAtL_length _ _ _ 0).symm, by rw [lAtL_length]; exact HGB.out.1, (own_reads O6.out).chg hfin (fun ad e _ h => by injection e with e; subst e; rcases h with h | h <;> (have h2 : gB = _ := h; omega)), fun ad e => ?_⟩
      injection e with e
      subst e
      exact ⟨⟨⟨by show w.heap.size ≤ gB; omega, by show gB ≠ gA; omega⟩, fun e => by injection e with e; have e2 : gL = gB := e; omega⟩, Nat.lt_of_lt_of_le (by show gB < w6.heap.size; omega) hfin.size⟩
end Go.Proofs.YtlpningplmbnhaaDoor
