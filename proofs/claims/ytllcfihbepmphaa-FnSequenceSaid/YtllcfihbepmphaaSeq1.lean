/- The contracts of the sequence verifier's popStack, pushStack, Valid, and of its transitions. -/
import Derived.Test.YtllcfihbepmphaaProg
import Derived.Test.YtllcfihbepmphaaV2
import Derived.Test.YtllcfihbepmphaaBitsP
set_option linter.unusedVariables false
set_option linter.unusedSimpArgs false
namespace Go.Proofs.Ytllcfihbepmphaa
open Go.RowKit V
theorem infoS : (Try.prog.info? 113).map (fun i => (i.zero, i.size, i.bytes)) = some (some (.int .i8 0), 1, 1) := by kernel_rfl
theorem sizeS : (Try.prog.info? 113).map (·.size) = some 1 := by kernel_rfl
/-- The verifier at g: its stack (the lowest first), its state; the stack's row is none of the blocks of P. -/
def Ver (w : World) (base g : Nat) (P : Nat → Prop) (st : List Int) (q : Int) : Prop :=
  ∃ v, Blk w g 117 [v, .int .i8 q] ∧ Own w base 113 .i8 v st ∧ ∀ b, v.ownBlock = some b → ¬ P b ∧ b ≠ g
theorem Ver.chg {w w' : World} {base g : Nat} {P : Nat → Prop} {st : List Int} {q : Int} (h : Ver w base g P st q) (hc : Chg NoB w w') : Ver w' base g P st q := by
  obtain ⟨v, h1, h2, h3⟩ := h
  exact ⟨v, h1.chg hc (fun e => e), own_keep h2 hc, h3⟩
theorem Ver.weaken {w : World} {base g : Nat} {P P' : Nat → Prop} {st : List Int} {q : Int} (h : Ver w base g P st q) (hp : ∀ b, b < w.heap.size → P' b → P b) : Ver w base g P' st q := by
  obtain ⟨v, h1, h2, h3⟩ := h
  exact ⟨v, h1, h2, fun b hb => ⟨fun hb2 => (h3 b hb).1 (hp b (own_block_lt h2 b hb).2 hb2), (h3 b hb).2⟩⟩
set_option maxRecDepth 100000 in
set_option maxHeartbeats 1000000 in
theorem pop_any (base g : Nat) (P : Nat → Prop) (st : List Int) (x q : Int) (w : World) (hv : Ver w base g P (st ++ [x]) q) (hl : st.length ≤ 1048576) :
    Calls Try.prog 34 #[.pointer (some ⟨g, 0, none⟩)] w fun e w' => e = .returned (.int .i8 x) ∧ Ver w' base g P st q ∧ Chg (fun b => b = g) w w' := by
  obtain ⟨v, hb, ho, hp⟩ := hv
  obtain ⟨ga, c, rfl, hc, hba, _⟩ := own_form_pos ho (by simp)
  obtain ⟨n, hn⟩ : ∃ n, n = st.length := ⟨_, rfl⟩
  have hlen : (st ++ [x]).length = n + 1 := by simp [hn]
  have hnl : n ≤ 1048576 := by omega
  rw [hlen] at hb ho hc
  have hat := own_at ho n (by rw [hlen]; omega)
  have hrd : rd (st ++ [x]) (n : Int) = x := by unfold rd; rw [Int.toNat_natCast, hn]; simp
  rw [hrd] at hat
  have c0 := hb.cell 0
  have f0 := hb.frozen 0
  simp only [List.getElem?_cons_zero] at c0
  have cn := hat.1
  have hcut := cut_to (P := Try.prog) 114 113 Try.underlying114 sizeS (some ⟨ga, 0, none⟩) (n + 1) c (n : Int) .i64 n rfl (by omega)
  have ho2 := own_take ho n (by rw [hlen]; omega)
  rw [show (st ++ [x]).take n = st from by rw [hn]; simp, ← hn] at ho2
  have HB := As.mk hb
  have HO := As.mk ho2
  have HP := As.mk hp
  have hgs := hb.lt
  have hne : ¬ ga = g := (hp ga rfl).2
  clear hb ho hat hrd hn hlen ho2 hp
  have hsub : IntKind.i64.wrap (((n + 1 : Nat) : Int) - 1) = (n : Int) := by
    rw [show ((n + 1 : Nat) : Int) - 1 = (n : Int) from by omega]
    simp [IntKind.wrap, IntKind.bits, IntKind.signed]; omega
  go_enter Try.func34, Try.ntmps34
  go_wp2_with fail
  go_ret
  refine ⟨rfl, ⟨_, HB.out.set_ 0 _, ?_, HP.out⟩, (Chg.refl _ w).setCell (p := ⟨g, 0, none⟩) _ (fun _ => rfl)⟩
  exact own_chg HO.out ((Chg.refl (fun b => b = g) w).setCell (p := ⟨g, 0, none⟩) _ (fun _ => rfl)) (fun b hb e => (HP.out b hb).2 e)
set_option maxRecDepth 100000 in
set_option maxHeartbeats 1000000 in
theorem push_any (base g : Nat) (P : Nat → Prop) (st : List Int) (x q : Int) (w : World) (hv : Ver w base g P st q) (hbase : base ≤ w.heap.size) (hP : ∀ b, P b → b < w.heap.size) (hl : st.length ≤ 1048576) :
    Calls Try.prog 36 #[.pointer (some ⟨g, 0, none⟩), .int .i8 x] w fun e w' => (∃ r, e = .returned r) ∧ Ver w' base g P (st ++ [x]) q ∧ Chg (fun b => b = g ∨ (base ≤ b ∧ ¬ P b)) w w' := by
  obtain ⟨v, hb, ho, hp⟩ := hv
  have c0 := hb.cell 0
  simp only [List.getElem?_cons_zero] at c0
  have HB := As.mk hb
  have HO := As.mk ho
  have HP := As.mk hp
  have HPP := As.mk hP
  obtain ⟨A0, c00, hv, _, _⟩ := own_form ho
  subst hv
  obtain ⟨n, hn⟩ : ∃ n, n = st.length := ⟨_, rfl⟩
  rw [← hn] at c0
  have HN := As.mk hn
  clear hb ho hp hP hn
  go_enter Try.func36, Try.ntmps36
  go_wp2_with (at_builtin; refine wpList_append_rk rfl _ _ 114 rfl 113 .i8 1 Try.underlying114 infoS (by decide) (.slice A0 st.length c00) base st [x] (some ⟨w.heap.size, 0, none⟩) 1 ?hs rfl (own_keep HO.out ((Chg.refl NoB w).alloc _)) (own_reads (own_lit w base 113 .i8 [x] hbase (by simp [maxLen]))) ?hb (by simp; omega) ?_; (case hs => rw [← HN.out]; rfl); (case hb => simp; omega); intro v1 w1 ho1 hg1 hv1; obtain ⟨A1, c1, rfl, _, _⟩ := own_form ho1; have HO1 := As.mk ho1; have HG1 := As.mk hg1; have HV1 := As.mk hv1; generalize hm : (st ++ [x]).length = m1 at HO1 HV1; clear ho1 hg1 hv1 hm; have hb1 := (HB.out.alloc (.cells #[.int .i8 x] 113)); have hg0 := HB.out.lt; have hcg : Chg (fun b => b = g ∨ (base ≤ b ∧ ¬ P b)) w w1 := ((Chg.refl _ w).alloc _).grown HG1.out (fun k hk e => Or.inr ⟨(own_block_lt HO.out k e).1, (HP.out k e).1⟩); have hbg : Blk w1 g 117 [.slice A0 st.length c00, .int .i8 q] := (HG1.out.block g (by simp; omega) (fun e => (HP.out g e.symm).2 rfl)).trans hb1; have c0 := hbg.cell 0; have f0 := hbg.frozen 0; simp only [List.getElem?_cons_zero] at c0; have HBG := As.mk hbg; have HCG := As.mk hcg; clear hb1 hcg hbg)
  go_end0
  have hnb : ∀ b, (Value.slice A1 m1 c1).ownBlock = some b → ¬ P b ∧ b ≠ g := by
    intro b hb
    rcases HV1.out with h | h
    · rw [h] at hb; exact HP.out b hb
    · rw [h] at hb
      injection hb with hb
      subst hb
      have e1 : (w.alloc (.cells #[.int .i8 x] 113)).heap.size = w.heap.size + 1 := Array.size_push _
      rw [e1]
      refine ⟨fun hPb => ?_, by omega⟩
      have := HPP.out _ hPb
      omega
  refine ⟨⟨_, rfl⟩, ⟨_, HBG.out.set_ 0 _, ?_, hnb⟩, HCG.out.setCell (p := ⟨g, 0, none⟩) _ (fun _ => Or.inl rfl)⟩
  exact own_chg HO1.out ((Chg.refl (fun b => b = g) w1).setCell (p := ⟨g, 0, none⟩) _ (fun _ => rfl)) (fun b hb e => (hnb b hb).2 e)
end Go.Proofs.Ytllcfihbepmphaa
