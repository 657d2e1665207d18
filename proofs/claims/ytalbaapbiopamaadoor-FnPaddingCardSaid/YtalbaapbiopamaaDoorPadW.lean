/- The two writers that padding is copied to: the one that drops, a sink. -/
import Derived.Test.YtalbaapbiopamaaDoorCopyN
set_option linter.unusedVariables false
set_option linter.unusedSimpArgs false
namespace Go.Proofs.YtalbaapbiopamaaDoor
open Go.RowKit V
set_option maxHeartbeats 1000000 in
theorem discWrite_any (A : Option Addr) (n c : Nat) (w : World) :
    Calls Tryd.prog 45 #[.agg #[], .slice A n c] w fun e w' => e = .returned (.tuple #[.int .i64 n, .nilIface]) ∧ Chg NoB w w' := by
  go_enter Tryd.func45, Tryd.ntmps45
  go_wp2_with fail
  go_ret2
  exact ⟨rfl, (Chg.refl _ _).alloc _⟩
theorem discTaker (base g s B : Nat) (xs : List Int) : Taker 106 (.agg #[]) 45 (.agg #[]) base g s B xs (fun _ _ => True) where
  ta := fun w => run_typeAssert_lacksB Tryd.underlying84 (by kernel_rfl) (by kernel_rfl) _ _ _
  na := fun w => by kernel_rfl
  mw := fun w => by kernel_rfl
  cf := fun x w => by kernel_rfl
  keep := fun _ _ _ _ _ => trivial
  write := fun k j c w _ _ _ _ => (discWrite_any _ j c w).mono fun e w' h => ⟨h.1, trivial, NoB, h.2, fun e => e, fun e => e, fun e => e, fun _ _ e => e⟩
theorem grown_chgP {w w' : World} {nb : Option Nat} (h : w.grownBy w' nb) : Chg (fun b => nb = some b) w w' := (Chg.refl _ _).grown h (fun k _ e => e)
/-- What a sink at g holds, its row's block told. -/
def SinkO (w : World) (base g : Nat) (No : Nat → Prop) (xs : List Int) : Prop := ∃ v, Blk w g 44 [v] ∧ Own w base 5 .u8 v xs ∧ ∀ r, v.ownBlock = some r → ¬ No r ∧ r ≠ g
set_option maxRecDepth 100000 in
set_option maxHeartbeats 1000000 in
theorem sinkWrite_own (base g n c : Nat) (A : Option Addr) (xs ys : List Int) (No : Nat → Prop) (w : World) (hn : n = ys.length) (hs : SinkO w base g No xs) (hb : base ≤ w.heap.size) (ry : Rb w A ys) (hl : xs.length + ys.length ≤ 140737488355328) (hNo : ∀ b, No b → b < w.heap.size) :
    Calls Tryd.prog 39 #[.pointer (some ⟨g, 0, none⟩), .slice A n c] w fun e w' => e = .returned (.tuple #[.int .i64 n, .nilIface]) ∧ SinkO w' base g No (xs ++ ys) ∧ Chg (fun b => b = g ∨ (base ≤ b ∧ ¬ No b)) w w' := by
  obtain ⟨v, hbk, ho, hv⟩ := hs
  have hob := own_block_lt ho
  obtain ⟨A0, c00, rfl, _, _⟩ := own_form ho
  generalize hm0 : xs.length = m0 at hbk ho hv hob
  have HM0 := As.mk hm0
  have HN := As.mk hn
  have HBK := As.mk hbk
  have HO := As.mk ho
  have RY := As.mk ry
  have HV := As.mk hv
  have HOB := As.mk hob
  have HNO := As.mk hNo
  have c0 := hbk.cell 0
  have glt := hbk.lt
  simp only [List.getElem?_cons_zero] at c0
  clear hbk ho ry hm0 hv hob hNo
  subst hn
  generalize hnn : ys.length = nn at *
  go_enter Tryd.func39, Tryd.ntmps39
  go_wp2_with (at_builtin; subst hnn; refine wpList_append_rk rfl _ _ 23 rfl 5 .u8 1 Tryd.underlying23 info8 (by decide) (.slice A0 m0 c00) base xs ys A c rfl rfl HO.out RY.out hb (by omega) ?_; intro v1 w1 ho1 hg1 hnb1; obtain ⟨A1, c01, hv1, _, _⟩ := own_form ho1; subst hv1; generalize hm1 : (xs ++ ys).length = m1 at ho1 hnb1; clear hm1; have HO1 := As.mk ho1; have HC1 := As.mk (grown_chgP hg1); have HNB := As.mk hnb1; have hb1 := HBK.out.chg HC1.out (fun e => (HV.out g e).2 rfl); have HB1 := As.mk hb1; have c1 := hb1.cell 0; have f1 := hb1.frozen 0; simp only [List.getElem?_cons_zero] at c1; clear ho1 hg1 hb1 hnb1)
  have HOL := As.mk (own_block_lt HO1.out)
  go_ret2
  refine ⟨rfl, ⟨_, HB1.out.set_ 0 _, own_chg HO1.out ((Chg.refl (fun b => b = g) w1).setCell (p := ⟨g, 0, none⟩) _ (fun _ => rfl)) (fun b hb2 e => ?_), fun r hr => ?_⟩, (HC1.out.mono (fun i _ e => Or.inr ⟨(HOB.out i e).1, (HV.out i e).1⟩)).setCell (p := ⟨g, 0, none⟩) _ (fun _ => Or.inl rfl)⟩
  · rcases HNB.out with h | h
    · rw [h] at hb2; exact (HV.out b hb2).2 e
    · rw [h] at hb2; injection hb2 with hb2; omega
  · rcases HNB.out with h | h
    · rw [h] at hr; exact HV.out r hr
    · rw [h] at hr; injection hr with hr
      subst hr
      exact ⟨fun e => absurd (HNO.out _ e) (Nat.lt_irrefl _), by omega⟩
/-- What a sink holds that so many bytes of xs were copied to. -/
def SinkD (bs gs s : Nat) (ys xs : List Int) (g B k : Nat) (w : World) : Prop :=
  SinkO w bs gs (fun b => b = g ∨ b = s ∨ b = B) (ys ++ xs.take k) ∧ g < w.heap.size ∧ s < w.heap.size
theorem sinkTaker (base bs gs s g B : Nat) (ys xs : List Int) (hbb : base ≤ bs) (hbg : base ≤ gs) (hgs : gs ≠ s) (hgg : gs ≠ g) (hgB : gs ≠ B) (hB : bs ≤ B) (hl : ys.length + xs.length ≤ 140737488355328) :
    Taker 42 (.pointer (some ⟨gs, 0, none⟩)) 39 (.pointer (some ⟨gs, 0, none⟩)) base g s B xs (SinkD bs gs s ys xs g B) where
  ta := fun w => run_typeAssert_lacksB Tryd.underlying84 (by kernel_rfl) (by kernel_rfl) _ _ _
  na := nil_ahead _
  mw := method_write _
  cf := fun x w => by kernel_rfl
  keep := fun k w w' h hc => by
    obtain ⟨⟨v, h1, h2, h3⟩, h4, h5⟩ := h
    refine ⟨⟨v, h1.chg hc (fun e => by rcases e with e | e | e <;> omega), own_chg h2 hc (fun b hb e => (h3 b hb).1 (by rcases e with e | e | e; exact .inl e; exact .inr (.inl e); exact .inr (.inr e))), h3⟩, Nat.lt_of_lt_of_le h4 hc.size, Nat.lt_of_lt_of_le h5 hc.size⟩
  write := fun k j c w h hj hkj hr => by
    obtain ⟨h1, h4, h5⟩ := h
    have hjl : ((xs.drop k).take j).length = j := by rw [List.length_take, List.length_drop]; omega
    have hBl : B < w.heap.size := by
      obtain ⟨ad, e, hlt, _⟩ := hr.2 (by omega)
      injection e with e
      subst e
      exact hlt
    refine (sinkWrite_own bs gs j c (some ⟨B, 0, none⟩) (ys ++ xs.take k) ((xs.drop k).take j) _ w hjl.symm h1 (by omega) hr (by rw [hjl, List.length_append, List.length_take]; omega) (fun b hb => by rcases hb with e | e | e <;> omega)).mono ?_
    rintro e w' ⟨rfl, hs, hc⟩
    refine ⟨rfl, ⟨by rw [List.append_assoc, ← List.take_add] at hs; exact hs, Nat.lt_of_lt_of_le h4 hc.size, Nat.lt_of_lt_of_le h5 hc.size⟩, _, hc, ?_, ?_, ?_, ?_⟩
    · intro e; rcases e with e | e
      · exact hgg e.symm
      · exact e.2 (.inl rfl)
    · intro e; rcases e with e | e
      · exact hgs e.symm
      · exact e.2 (.inr (.inl rfl))
    · intro e; rcases e with e | e
      · exact hgB e.symm
      · exact e.2 (.inr (.inr rfl))
    · intro b hb e; rcases e with e | e <;> omega
end Go.Proofs.YtalbaapbiopamaaDoor
