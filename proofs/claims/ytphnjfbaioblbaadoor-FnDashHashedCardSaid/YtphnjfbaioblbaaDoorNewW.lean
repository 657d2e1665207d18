/- The contracts of bufio.NewWriterSize, NewWriter over a sink, and of the door that makes a dash escaper. -/
import Derived.Test.YtphnjfbaioblbaaDoorDq
set_option linter.unusedVariables false
set_option linter.unusedSimpArgs false
namespace Go.Proofs.YtphnjfbaioblbaaDoor
open Go.RowKit V
theorem ta_bw (a : Addr) (w : World) : (Instr.typeAssert (.iface 31 (.pointer (some a))) 35 44 true).run Tryd.prog w = .ok (.tuple #[.pointer none, .bool false]) w := by kernel_rfl
/-- A new writer. -/
def NewBw (w : World) (base g : Nat) (F : Nat → Prop) (e : Ending) (w' : World) : Prop :=
  ∃ bf bb FB, e = .returned (.pointer (some ⟨bf, 0, none⟩)) ∧ Bw w' base bf bb g FB 0 0 ∧ Chg NoB w w' ∧ w.heap.size ≤ bf ∧ w.heap.size ≤ bb ∧ ∀ b, FB b ↔ b = bf ∨ b = bb ∨ F b
set_option maxRecDepth 100000 in
set_option maxHeartbeats 1000000 in
theorem newWriterSize_any (base g : Nat) (F : Nat → Prop) (w : World) (hs : Snk w base g F []) (hb : base ≤ w.heap.size) :
    Calls Tryd.prog 18 #[.iface 31 (.pointer (some ⟨g, 0, none⟩)), .int .i64 4096] w (NewBw w base g F) := by
  have HS := As.mk hs
  have ta := ta_bw
  clear hs
  go_enter Tryd.func18, Tryd.ntmps18
  go_wp2_with ((with_reducible refine gate (N := 26) rfl ?_); refine wpList_make_k rfl _ 25 rfl 5 .u8 1 Tryd.underlying25 info8 (by decide) 4096 _ rfl rfl (by decide) ?_; intro w1 bb hg ho hc hz; have HG := As.mk hg.out; have HO := As.mk ho; have HC := As.mk hc; have HZ := As.mk hz; clear hg ho hc hz)
  go_ret
  have hal := (Chg.refl NoB w1).alloc (.cells (bwCells bb g 0).toArray 57)
  refine ⟨w1.heap.size, bb, fun b => b = w1.heap.size ∨ b = bb ∨ F b, rfl, ⟨F, [], List.replicate 4096 0, (HS.out.chg HC.out (fun _ _ e => e)).chg hal (fun _ _ e => e), Nat.le_refl _, by decide, by decide, Blk.new w1 _ (bwCells bb g 0), own_lower (own_keep HO.out hal) hb, ?_, ?_, ?_, fun b => Iff.rfl⟩, HC.out.trans hal (fun _ _ e => e), by rw [HZ.out]; omega, by rw [HG.out]; omega, fun b => Iff.rfl⟩
  · rw [HZ.out, HG.out]; omega
  · intro h; have := HS.out.lt _ h; rw [HZ.out] at this; omega
  · intro h; have := HS.out.lt _ h; rw [HG.out] at this; omega
set_option maxRecDepth 100000 in
theorem newWriter_any (base g : Nat) (F : Nat → Prop) (w : World) (hs : Snk w base g F []) (hb : base ≤ w.heap.size) :
    Calls Tryd.prog 15 #[.iface 31 (.pointer (some ⟨g, 0, none⟩))] w (NewBw w base g F) := by
  have HS := As.mk hs
  clear hs
  go_enter Tryd.func15, Tryd.ntmps15
  go_wp2_with fail
  refine (newWriterSize_any base g F _ HS.out hb).mono ?_
  rintro e w1 ⟨bf, bb, FB, rfl, h1, h2, h3, h4, h5⟩
  have H := As.mk (And.intro h1 (And.intro h2 (And.intro h3 (And.intro h4 h5))))
  clear h1 h2 h3 h4 h5
  go_wp2_with fail
  go_ret
  exact ⟨bf, bb, FB, rfl, H.out.1, H.out.2.1, H.out.2.2.1, H.out.2.2.2.1, H.out.2.2.2.2⟩
set_option maxRecDepth 100000 in
set_option maxHeartbeats 1000000 in
theorem dashNew_any (base g gh : Nat) (w : World) (hs : Snk w base g (fun b => b = g) []) (hh : Snk w base gh (fun b => b = gh) []) (hne : g ≠ gh) (hb : base ≤ g) (hb2 : base ≤ gh) :
    Calls Tryd.prog 11 #[.iface 31 (.pointer (some ⟨g, 0, none⟩)), .iface 31 (.pointer (some ⟨gh, 0, none⟩))] w fun e w' => ∃ d bf bb by_ FB col, e = .returned (.tuple #[.iface 46 (.pointer (some ⟨d, 0, none⟩)), .func (.func 16) #[.pointer (some ⟨bf, 0, none⟩)] #[]]) ∧ Dsc base d bf bb g gh by_ (.map none) (.pointer none) w' (.slice none 0 0) 0 FB (fun b => b = gh) col 0 (dashed []) 0 ∧ Chg NoB w w' := by
  have HS := As.mk hs
  have HH := As.mk hh
  have hbw : base ≤ w.heap.size := Nat.le_trans hb (Nat.le_of_lt (hs.lt g rfl))
  clear hs hh
  go_enter Tryd.func11, Tryd.ntmps11
  go_wp2_with fail
  refine (newWriter_any base g _ _ HS.out hbw).mono ?_
  rintro e w1 ⟨bf, bb, FB, rfl, h1, h2, h3, h4, h5⟩
  have HB1 := As.mk h1
  have HC1 := As.mk h2
  have HF1 := As.mk (And.intro h3 (And.intro h4 h5))
  clear h1 h2 h3 h4 h5
  go_wp2_with ((with_reducible refine gate (N := 11) rfl ?_); refine wpList_make_k rfl _ 25 rfl 5 .u8 1 Tryd.underlying25 info8 (by decide) 1 _ rfl rfl (by decide) ?_; intro w2 by_ hg ho hc hz; have HG := As.mk hg.out; have HO := As.mk ho; have HC := As.mk hc; have HZ := As.mk hz; clear hg ho hc hz)
  go_ret2
  have hal := (Chg.refl NoB w2).alloc (.cells (dCells bf gh by_ (.map none) (.pointer none) true true (.slice none 0 0)).toArray 53)
  obtain ⟨g1, g2, g3⟩ := HF1.out
  have s1 := HC1.out.size
  have s2 := HG.out
  have s3 := HZ.out
  have hgw := HS.out.lt g rfl
  have hhw := HH.out.lt gh rfl
  have hbl := HB1.out.lt bf ((g3 _).2 (.inl rfl))
  have hbb := HB1.out.lt bb ((g3 _).2 (.inr (.inl rfl)))
  refine ⟨w2.heap.size, bf, bb, by_, FB, open Classical in fun b => if b = gh then 2 else if b = w2.heap.size then 4 else if b = by_ then 5 else if FB b then 1 else 0, rfl, ?_, (HC1.out.trans HC.out (fun _ _ e => e)).trans hal (fun _ _ e => e)⟩
  exact {
    blk := Blk.new w2 _ (dCells bf gh by_ (.map none) (.pointer none) true true (.slice none 0 0))
    ws := own_nil _ _ _ _
    cw := fun b e => by simp [Value.ownBlock] at e
    byte := own_lower (own_keep HO.out hal) (by omega)
    bw := (HB1.out.chg HC.out (fun _ _ e => e)).chg hal (fun _ _ e => e)
    cb := fun b e => by
      have h1 : b < w1.heap.size := HB1.out.lt b e
      have h2 : b ≠ gh := fun h => by rcases (g3 b).1 e with q | q | q <;> omega
      simp only [if_neg h2, if_neg (show b ≠ w2.heap.size by omega), if_neg (show b ≠ by_ by omega), if_pos e]
    snk := ((HH.out.chg HC1.out (fun _ _ e => e)).chg HC.out (fun _ _ e => e)).chg hal (fun _ _ e => e)
    ch := fun b e => if_pos e
    cd := by simp only [if_neg (show w2.heap.size ≠ gh by omega), if_true]
    cy := by simp only [if_neg (show by_ ≠ gh by omega), if_neg (show by_ ≠ w2.heap.size by omega), if_true]
    lo := fun b e => by
      by_cases h1 : b = gh
      · omega
      · by_cases h2 : b = w2.heap.size
        · omega
        · by_cases h3 : b = by_
          · omega
          · by_cases h4 : FB b
            · rcases (g3 b).1 h4 with q | q | q <;> omega
            · simp [h1, h2, h3, h4] at e }
end Go.Proofs.YtphnjfbaioblbaaDoor
