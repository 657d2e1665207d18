/- The contract of (*impl.sink).Write with its footprint: the sink's own block and its row's may turn, the new footprint lies in the old one and in new blocks. -/
import Derived.Test.YtphnjfbaioblbaaDoorBase
import Derived.Test.YtphnjfbaioblbaaDoorRow
set_option linter.unusedVariables false
set_option linter.unusedSimpArgs false
namespace Go.Proofs.YtphnjfbaioblbaaDoor
open Go.RowKit V
/-- A footprint that has grown into new blocks alone. -/
def Grew (F : Nat → Prop) (w : World) (F' : Nat → Prop) : Prop := ∀ b, F' b → F b ∨ w.heap.size ≤ b
theorem Grew.refl (F : Nat → Prop) (w : World) : Grew F w F := fun _ h => .inl h
theorem Grew.trans {F F' F'' : Nat → Prop} {w w' : World} (h : Grew F w F') (h' : Grew F' w' F'') (hs : w.heap.size ≤ w'.heap.size) : Grew F w F'' := fun b hb => by
  rcases h' b hb with h1 | h1
  · exact h b h1
  · exact .inr (Nat.le_trans hs h1)
/-- Two footprints stay apart if one grows and the other one's blocks are old. -/
theorem Grew.apart {F F' G : Nat → Prop} {w : World} (h : Grew F w F') (ha : ∀ b, F b → ¬ G b) (hG : ∀ b, G b → b < w.heap.size) : ∀ b, F' b → ¬ G b := fun b hb hg => by
  rcases h b hb with h1 | h1
  · exact ha b h1 hg
  · have := hG b hg; omega
/-- A change within a footprint, behind one that has grown, is one within the first or in new blocks: seen from the old world it lies in the first one. -/
theorem Chg.grew {F F' : Nat → Prop} {w w' w'' : World} (h : Chg F w w') (h' : Chg F' w' w'') (hg : Grew F w F') : Chg F w w'' :=
  h.trans h' (fun i hi e => by rcases hg i e with h1 | h1; exact h1; omega)
/-- A sink at g holds xs; its footprint is F. -/
structure Snk (w : World) (base g : Nat) (F : Nat → Prop) (xs : List Int) : Prop where
  ex : ∃ v, Blk w g 33 [v] ∧ Own w base 5 .u8 v xs ∧ v.ownBlock ≠ some g ∧ ∀ b, F b ↔ b = g ∨ v.ownBlock = some b
theorem Snk.chg {w w' : World} {base g : Nat} {F S : Nat → Prop} {xs : List Int} (h : Snk w base g F xs) (hc : Chg S w w') (hs : ∀ b, F b → ¬ S b) : Snk w' base g F xs := by
  obtain ⟨v, h1, h2, h3, h4⟩ := h.ex
  exact ⟨v, h1.chg hc (hs _ ((h4 _).2 (.inl rfl))), own_chg h2 hc (fun b e => hs b ((h4 b).2 (.inr e))), h3, h4⟩
theorem Snk.lt {w : World} {base g : Nat} {F : Nat → Prop} {xs : List Int} (h : Snk w base g F xs) : ∀ b, F b → b < w.heap.size := by
  obtain ⟨v, h1, h2, h3, h4⟩ := h.ex
  intro b hb
  rcases (h4 b).1 hb with rfl | e
  · exact h1.lt
  · exact (own_block_lt h2 b e).2
theorem Snk.ge {w : World} {base g : Nat} {F : Nat → Prop} {xs : List Int} (h : Snk w base g F xs) (hg : base ≤ g) : ∀ b, F b → base ≤ b := by
  obtain ⟨v, h1, h2, h3, h4⟩ := h.ex
  intro b hb
  rcases (h4 b).1 hb with rfl | e
  · exact hg
  · exact (own_block_lt h2 b e).1
theorem Snk.at_ {w : World} {base g : Nat} {F : Nat → Prop} {xs : List Int} (h : Snk w base g F xs) : F g := by
  obtain ⟨v, h1, h2, h3, h4⟩ := h.ex
  exact (h4 g).2 (.inl rfl)
/-- What a write leaves. -/
def WroteS (w : World) (base g : Nat) (F : Nat → Prop) (xs : List Int) (n : Nat) (e : Ending) (w' : World) : Prop :=
  e = .returned (.tuple #[.int .i64 n, .nilIface]) ∧ ∃ F', Snk w' base g F' xs ∧ Chg F w w' ∧ Grew F w F'
set_option maxRecDepth 100000 in
set_option maxHeartbeats 1000000 in
theorem snkWrite_any (base g n c : Nat) (F : Nat → Prop) (A : Option Addr) (xs ys : List Int) (w : World) (hn : n = ys.length) (hs : Snk w base g F xs) (hb : base ≤ w.heap.size) (ry : Rb w A ys) (hl : xs.length + ys.length ≤ 140737488355328) :
    Calls Tryd.prog 35 #[.pointer (some ⟨g, 0, none⟩), .slice A n c] w (WroteS w base g F (xs ++ ys) n) := by
  obtain ⟨v, hbk, ho, hne, hF⟩ := hs.ex
  have hgl := hbk.lt
  have HFF := As.mk hF
  subst hn
  obtain ⟨A0, c00, hv0, hl0, _⟩ := ow_form (ow_of ho)
  generalize hm0 : xs.length = m0 at hv0
  subst hv0
  have HNE := As.mk hne
  have HBK := As.mk hbk
  have HO := As.mk ho
  have RY := As.mk ry
  have c0 := hbk.cell 0
  simp only [List.getElem?_cons_zero] at c0
  clear hbk ho ry hne hF hs
  generalize hnl : ys.length = n at *
  have HNL := As.mk hnl
  go_enter Tryd.func35, Tryd.ntmps35
  go_wp2_with (at_builtin; refine wpList_append_rk rfl _ _ 25 rfl 5 .u8 1 Tryd.underlying25 info8 (by decide) _ base xs ys A c rfl (by rw [HNL.out]; rfl) HO.out RY.out hb (by have := HNL.out; omega) ?_; intro v1 w1 ho1 hg1 hb1; have HB1b := As.mk hb1; obtain ⟨A1, c01, hv1, _, _⟩ := ow_form (ow_of ho1); generalize hm1 : (xs ++ ys).length = m1 at hv1; clear hm1; subst hv1; have HO1 := As.mk ho1; have hc1 := grown_chg hg1; have HC1 := As.mk hc1; have hbx := HBK.out.chg hc1 (fun e => HNE.out e); have HB1 := As.mk hbx; have c1 := hbx.cell 0; have f1 := hbx.frozen 0; simp only [List.getElem?_cons_zero] at c1; clear ho1 hc1 hg1 hbx hb1)
  go_ret2
  have hne1 : (Value.slice A1 m1 c01).ownBlock ≠ some g := by
    intro e
    rcases HB1b.out with h1 | h1
    · exact HNE.out (h1 ▸ e)
    · rw [h1] at e; injection e with e; omega
  refine ⟨rfl, fun b => b = g ∨ (Value.slice A1 m1 c01).ownBlock = some b, ⟨_, HB1.out.set_ 0 _, ?_, hne1, fun b => Iff.rfl⟩, ?_, ?_⟩
  · exact own_chg HO1.out ((Chg.refl (fun b => b = g) w1).setCell (p := ⟨g, 0, none⟩) _ (fun _ => rfl)) (fun b hb2 e => hne1 (by rw [hb2, e]))
  · exact (HC1.out.mono (fun i _ e => (HFF.out i).2 (.inr e))).setCell (p := ⟨g, 0, none⟩) _ (fun _ => (HFF.out g).2 (.inl rfl))
  · rintro b (rfl | e)
    · exact .inl ((HFF.out _).2 (.inl rfl))
    · rcases HB1b.out with h1 | h1
      · exact .inl ((HFF.out b).2 (.inr (h1 ▸ e)))
      · rw [h1] at e; injection e with e; exact .inr (by omega)
end Go.Proofs.YtphnjfbaioblbaaDoor
