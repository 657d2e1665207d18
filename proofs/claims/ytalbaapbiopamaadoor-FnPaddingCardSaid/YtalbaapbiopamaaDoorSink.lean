/- The contract of (*impl.sink).Write: what is written lies behind what was there. -/
import Derived.Test.YtalbaapbiopamaaDoorBase
import Derived.Test.YtalbaapbiopamaaDoorV3
set_option linter.unusedVariables false
set_option linter.unusedSimpArgs false
namespace Go.Proofs.YtalbaapbiopamaaDoor
open Go.RowKit V
/-- A sink at g holds xs. -/
def Sink (w : World) (base g : Nat) (xs : List Int) : Prop := ∃ v, Blk w g 44 [v] ∧ Ow w base 5 .u8 v xs
/-- What a write to a sink leaves: the blocks from base on and the sink's own may have turned. -/
def Wrote (w : World) (base g : Nat) (xs : List Int) (n : Nat) (e : Ending) (w' : World) : Prop :=
  e = .returned (.tuple #[.int .i64 n, .nilIface]) ∧ Sink w' base g xs ∧ Chg (fun b => b = g ∨ base ≤ b) w w'
set_option maxRecDepth 100000 in
set_option maxHeartbeats 1000000 in
theorem sinkWrite_any (base g n c : Nat) (A : Option Addr) (xs ys : List Int) (w : World) (hn : n = ys.length) (hs : Sink w base g xs) (hg : g < base) (hb : base ≤ w.heap.size) (ry : Rb w A ys) (hl : xs.length + ys.length ≤ 140737488355328) :
    Calls Tryd.prog 39 #[.pointer (some ⟨g, 0, none⟩), .slice A n c] w (Wrote w base g (xs ++ ys) n) := by
  obtain ⟨v, hbk, ho⟩ := hs
  obtain ⟨A0, c00, rfl, _, _⟩ := ow_form ho
  generalize hm0 : xs.length = m0 at hbk ho
  have HM0 := As.mk hm0
  have HN := As.mk hn
  have HBK := As.mk hbk
  have HO := As.mk ho
  have RY := As.mk ry
  have c0 := hbk.cell 0
  simp only [List.getElem?_cons_zero] at c0
  clear hn hbk ho ry hm0
  go_enter Tryd.func39, Tryd.ntmps39
  go_wp2_with (at_builtin; refine wpList_append_ow rfl _ _ 23 rfl 5 .u8 1 Tryd.underlying23 info8 (by decide) _ base xs ys A n c rfl rfl HN.out HO.out RY.out hb (by omega) ?_; intro v1 w1 ho1 hc1; obtain ⟨A1, c01, rfl, _, _⟩ := ow_form ho1; generalize hm1 : (xs ++ ys).length = m1 at ho1; clear hm1; have HO1 := As.mk ho1; have HC1 := As.mk hc1; have hb1 := HBK.out.chg hc1 (fun e => by have := e.1; omega); have HB1 := As.mk hb1; have c1 := hb1.cell 0; have f1 := hb1.frozen 0; simp only [List.getElem?_cons_zero] at c1; clear ho1 hc1 hb1)
  go_ret2
  refine ⟨rfl, ⟨_, HB1.out.set_ 0 _, ?_⟩, ?_⟩
  · exact ow_chg HO1.out ((Chg.refl (fun b => b = g) w1).setCell (p := ⟨g, 0, none⟩) _ (fun _ => rfl)) (fun b _ hb2 e => by omega)
  · exact (HC1.out.mono (fun i _ e => Or.inr e.1)).setCell (p := ⟨g, 0, none⟩) _ (fun _ => Or.inl rfl)
end Go.Proofs.YtalbaapbiopamaaDoor
