/- The contract of a write to an impl.recorder: what is written lies behind what was there; the pieces' block q and the hash's block h stay. -/
import Derived.Test.YtmokepbmodmgeaaCanP
import Derived.Test.YtmokepbmodmgeaaBase
import Derived.Test.YtmokepbmodmgeaaRow
set_option linter.unusedVariables false
set_option linter.unusedSimpArgs false
namespace Go.Proofs.Ytmokepbmodmgeaa
open Go.RowKit V
/-- A recorder at g holds xs. -/
def Rec (w : World) (base g q h : Nat) (xs : List Int) : Prop := ∃ v, Blk w g 56 [v] ∧ Own w base 5 .u8 v xs ∧ ∀ b, v.ownBlock = some b → b ≠ g ∧ b ≠ q ∧ b ≠ h
theorem Rec.alloc {w : World} {base g q h : Nat} {xs : List Int} (hr : Rec w base g q h xs) (o : Obj) : Rec (w.alloc o) base g q h xs := by
  obtain ⟨v, h1, h2, h3⟩ := hr
  exact ⟨v, h1.alloc o, own_keep h2 ((Chg.refl NoB w).alloc o), h3⟩
theorem Rec.drew {w : World} {base g q h : Nat} {xs : List Int} (hr : Rec w base g q h xs) : Rec w.drew base g q h xs := by
  obtain ⟨v, h1, h2, h3⟩ := hr
  exact ⟨v, h1.drew, own_keep h2 (Chg.refl NoB w).drew, h3⟩
/-- What a write leaves. -/
def WroteR (w : World) (base g q h : Nat) (xs : List Int) (n : Nat) (e : Ending) (w' : World) : Prop :=
  e = .returned (.tuple #[.int .i64 n, .nilIface]) ∧ Rec w' base g q h xs ∧ Chg (fun b => base ≤ b ∧ b ≠ q ∧ b ≠ h) w w'
set_option maxRecDepth 100000 in
set_option maxHeartbeats 1000000 in
theorem recWrite_any (base g q h n c : Nat) (A : Option Addr) (xs ys : List Int) (w : World) (hn : n = ys.length) (hs : Rec w base g q h xs) (hg : base ≤ g ∧ g ≠ q ∧ g ≠ h) (hq : q < w.heap.size ∧ h < w.heap.size) (hb : base ≤ w.heap.size) (ry : Rb w A ys) (hl : xs.length + ys.length ≤ 140737488355328) :
    Calls Try.prog 52 #[.pointer (some ⟨g, 0, none⟩), .slice A n c] w (WroteR w base g q h (xs ++ ys) n) := by
  obtain ⟨v, hbk, ho, hne⟩ := hs
  have hgl := hbk.lt
  subst hn
  obtain ⟨A0, c00, hv0, hl0, _⟩ := ow_form (ow_of ho)
  generalize hm0 : xs.length = m0 at hv0
  subst hv0
  have HNE := As.mk hne
  have HBK := As.mk hbk
  have HO := As.mk ho
  have RY := As.mk ry
  have c0 := hbk.cell 0
  simp only [List.getElem?_cons_zero] at c0
  clear hbk ho ry hne
  generalize hnl : ys.length = n at *
  have HNL := As.mk hnl
  go_enter Try.func52, Try.ntmps52
  go_wp2_with (at_builtin; refine wpList_append_rk rfl _ _ 22 rfl 5 .u8 1 Try.underlying22 info8 (by decide) _ base xs ys A c rfl (by rw [HNL.out]; rfl) HO.out RY.out hb (by have := HNL.out; omega) ?_; intro v1 w1 ho1 hg1 hb1; have HB1b := As.mk hb1; obtain ⟨A1, c01, hv1, _, _⟩ := ow_form (ow_of ho1); generalize hm1 : (xs ++ ys).length = m1 at hv1; clear hm1; subst hv1; have HO1 := As.mk ho1; have hc1 := grown_chg hg1; have HC1 := As.mk hc1; have hbx := HBK.out.chg hc1 (fun e => (HNE.out _ e).1 rfl); have HB1 := As.mk hbx; have c1 := hbx.cell 0; have f1 := hbx.frozen 0; simp only [List.getElem?_cons_zero] at c1; clear ho1 hc1 hg1 hbx hb1)
  go_ret2
  refine ⟨rfl, ⟨_, HB1.out.set_ 0 _, ?_, ?_⟩, ?_⟩
  · exact own_chg HO1.out ((Chg.refl (fun b => b = g) w1).setCell (p := ⟨g, 0, none⟩) _ (fun _ => rfl)) (fun b hb2 e => by
      subst e
      rcases HB1b.out with h1 | h1
      · exact (HNE.out _ (h1 ▸ hb2)).1 rfl
      · rw [h1] at hb2; injection hb2 with hb2; omega)
  · intro b hb2
    rcases HB1b.out with h1 | h1
    · exact HNE.out _ (h1 ▸ hb2)
    · rw [h1] at hb2; injection hb2 with hb2; omega
  · exact (HC1.out.mono (fun i _ e => ⟨(own_block_lt HO.out _ e).1, (HNE.out _ e).2⟩)).setCell (p := ⟨g, 0, none⟩) _ (fun _ => hg)
end Go.Proofs.Ytmokepbmodmgeaa
