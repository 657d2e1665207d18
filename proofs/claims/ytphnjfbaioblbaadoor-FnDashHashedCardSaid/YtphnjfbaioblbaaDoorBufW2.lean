/- The contracts of bufio.Writer's Available, Buffered and WriteByte, over a sink. PRINTED BY bufw2.py -/
import Derived.Test.YtphnjfbaioblbaaDoorBufW
set_option linter.unusedVariables false
set_option linter.unusedSimpArgs false
namespace Go.Proofs.YtphnjfbaioblbaaDoor
open Go.RowKit V
theorem bufAvail_any (base bf bb g n L : Nat) (F : Nat → Prop) (w : World) (hs : Bw w base bf bb g F n L) :
    Calls Tryd.prog 36 #[.pointer (some ⟨bf, 0, none⟩)] w fun e w' => e = .returned (.int .i64 (4096 - n : Nat)) ∧ Chg NoB w w' := by
  have hn := hs.small
  have c1 := hs.blk.cell 1
  have c2 := hs.blk.cell 2
  simp only [bwCells, List.getElem?_cons_zero, List.getElem?_cons_succ] at c1 c2
  clear hs
  obtain ⟨m, hm⟩ : ∃ m, m = 4096 - n := ⟨_, rfl⟩
  have e1 : IntKind.i64.wrap (4096 - (n : Int)) = m := by rw [IntKind.wrap_i64]; omega
  rw [← hm]
  clear hm
  go_enter Tryd.func36, Tryd.ntmps36
  go_wp2_with fail
  go_quiet (fail)
  go_wp2_with fail
  go_ret
  exact ⟨rfl, (Chg.refl _ _).drewN _⟩
theorem bufBuffered_any (base bf bb g n L : Nat) (F : Nat → Prop) (w : World) (hs : Bw w base bf bb g F n L) :
    Calls Tryd.prog 38 #[.pointer (some ⟨bf, 0, none⟩)] w fun e w' => e = .returned (.int .i64 n) ∧ w' = w := by
  have c2 := hs.blk.cell 2
  simp only [bwCells, List.getElem?_cons_zero, List.getElem?_cons_succ] at c2
  clear hs
  go_enter Tryd.func38, Tryd.ntmps38
  go_wp2_with fail
  go_ret
  exact ⟨rfl, rfl⟩
/-- A byte laid into the buffer. -/
theorem Bw.put {w : World} {base bf bb g n L : Nat} {F : Nat → Prop} (h : Bw w base bf bb g F n L) (i : Nat) (c : Int) : Bw (w.setCell ⟨bb, i, none⟩ (.int .u8 c)) base bf bb g F n L := by
  obtain ⟨Fs, xs, zs, h1, h2, h3, h4, h5, h6, h7, h8, h8', h9⟩ := h.ex
  have hc := (Chg.refl (fun b => b = bb) w).setCell (p := ⟨bb, i, none⟩) (.int .u8 c) (fun _ => rfl)
  exact ⟨Fs, xs, zs.set i c, h1.chg hc (fun b e q => h8' (q ▸ e)), h2, h3, by rw [List.length_set]; exact h4, h5.chg hc (fun e => h7 e), own_set h6 i c, h7, h8, h8', h9⟩
theorem Bw.at_ {w : World} {base bf bb g n L : Nat} {F : Nat → Prop} (h : Bw w base bf bb g F n L) (i : Nat) (hi : i < 4096) : (∃ x, w.cell? ⟨bb, i, none⟩ = some (.int .u8 x)) ∧ w.frozen? ⟨bb, i, none⟩ = false ∧ bf ≠ bb := by
  obtain ⟨Fs, xs, zs, h1, h2, h3, h4, h5, h6, h7, h8, h8', h9⟩ := h.ex
  have h := own_at h6 i (by omega)
  exact ⟨⟨_, h.1⟩, h.2, h7⟩
theorem Bw.in_ {w : World} {base bf bb g n L : Nat} {F : Nat → Prop} (h : Bw w base bf bb g F n L) : F bf ∧ F bb := by
  obtain ⟨Fs, xs, zs, h1, h2, h3, h4, h5, h6, h7, h8, h8', h9⟩ := h.ex
  exact ⟨(h9 _).2 (.inl rfl), (h9 _).2 (.inr (.inl rfl))⟩
theorem nilNe (w : World) : (binOp .neq 40 .nilIface .nilIface).run Tryd.prog w = .ok (.bool false) w := by kernel_rfl
set_option maxRecDepth 100000 in
set_option maxHeartbeats 1000000 in
theorem bufWriteByte_any (base bf bb g n L : Nat) (c : Int) (F : Nat → Prop) (w : World) (hs : Bw w base bf bb g F n L) (hb : base ≤ w.heap.size) (hl : L ≤ 140737488355320) :
    Calls Tryd.prog 41 #[.pointer (some ⟨bf, 0, none⟩), .int .u8 c] w fun e w' => e = .returned .nilIface ∧ ∃ n', BwLeft w base bf bb g F n' (L + 1) w' := by
  have hn := hs.small
  have HB := As.mk hs
  have c0 := hs.blk.cell 0
  simp only [bwCells, List.getElem?_cons_zero, List.getElem?_cons_succ] at c0
  clear hs
  have nn := nilNe
  obtain ⟨m, hm⟩ : ∃ m, m = 4096 - n := ⟨_, rfl⟩
  go_enter Tryd.func41, Tryd.ntmps41
  go_wp2_with fail
  refine (bufAvail_any base bf bb g n L F _ HB.out).mono ?_
  rintro e w1 ⟨rfl, hc1⟩
  have HC1 : As (Chg F w w1) := ⟨hc1.mono (fun _ _ e => e.elim)⟩
  have HB1 : As (Bw w1 base bf bb g F n L) := ⟨HB.out.chg hc1 (fun _ _ e => e)⟩
  clear hc1
  rw [← hm]
  have HM := As.mk hm
  clear hm
  by_cases h0 : m = 0
  · subst h0
    go_wp2_with fail
    with_reducible refine (bufFlush_any base bf bb g n L F _ HB1.out (Nat.le_trans hb HC1.out.size) (by omega)).mono ?_
    rintro e w2 ⟨rfl, F2, hb2, hc2, hg2⟩
    obtain ⟨n2, hn2⟩ : ∃ n2, n2 = 0 := ⟨_, rfl⟩
    rw [← hn2] at hb2
    have HB2 := As.mk hb2
    have HC2 := As.mk (HC1.out.trans hc2 (fun _ _ e => e))
    have HG2 : As (Grew F w F2) := ⟨fun b h => by rcases hg2 b h with h | h; exact .inl h; exact .inr (Nat.le_trans HC1.out.size h)⟩
    have hn3 : n2 < 4096 := by omega
    clear hb2 hc2 hg2 hn2
    have d1 := HB2.out.blk.cell 1
    have d2 := HB2.out.blk.cell 2
    have f2 := HB2.out.blk.frozen 2
    simp only [bwCells, List.getElem?_cons_zero, List.getElem?_cons_succ] at d1 d2
    obtain ⟨⟨x, hx⟩, hfx, hne⟩ := HB2.out.at_ n2 hn3
    have hne' : ¬ bf = bb := hne
    have hne2 : ¬ bb = bf := fun e => hne e.symm
    have e1 : IntKind.i64.wrap ((n2 : Int) + 1) = ((n2 + 1 : Nat) : Int) := by rw [IntKind.wrap_i64]; omega
    have e2 : (n2 : Int) < 4096 := by omega
    have e3 : (0 : Int) ≤ (n2 : Int) := by omega
    go_wp2_with fail
    go_still_tail 10, (by kernel_rfl)
    change wpList _ _ _ _ _ (World.drew w2)
    go_wp2_with fail
    go_ret
    refine ⟨rfl, n2 + 1, F2, ((HB2.out.chg (Chg.refl NoB w2).drew (fun _ _ e => e)).put n2 c).count (n' := n2 + 1) (L' := L + 1) (by omega) (by omega), ?_, HG2.out⟩
    exact ((HC2.out.drew).setCell (p := ⟨bb, n2, none⟩) _ (fun h => (by rcases HG2.out _ HB2.out.in_.2 with h1 | h1; exact h1; exact absurd h (by show ¬ _ < _; simp only at *; omega)))).setCell (p := ⟨bf, 2, none⟩) _ (fun h => (by rcases HG2.out _ HB2.out.in_.1 with h1 | h1; exact h1; exact absurd h (by show ¬ _ < _; simp only at *; omega)))
  · have h1 : ¬ ((m : Int) ≤ 0) := by omega
    have hn3 : n < 4096 := by have := HM.out; omega
    have d1 := HB1.out.blk.cell 1
    have d2 := HB1.out.blk.cell 2
    have f2 := HB1.out.blk.frozen 2
    simp only [bwCells, List.getElem?_cons_zero, List.getElem?_cons_succ] at d1 d2
    obtain ⟨⟨x, hx⟩, hfx, hne⟩ := HB1.out.at_ n hn3
    have hne' : ¬ bf = bb := hne
    have hne2 : ¬ bb = bf := fun e => hne e.symm
    have e1 : IntKind.i64.wrap ((n : Int) + 1) = ((n + 1 : Nat) : Int) := by rw [IntKind.wrap_i64]; omega
    have e2 : (n : Int) < 4096 := by omega
    have e3 : (0 : Int) ≤ (n : Int) := by omega
    go_wp2_with fail
    go_still_tail 10, (by kernel_rfl)
    change wpList _ _ _ _ _ (World.drew w1)
    go_wp2_with fail
    go_ret
    refine ⟨rfl, n + 1, F, ((HB1.out.chg (Chg.refl NoB w1).drew (fun _ _ e => e)).put n c).count (n' := n + 1) (L' := L + 1) (by omega) (by omega), ?_, Grew.refl _ _⟩
    exact ((HC1.out.drew).setCell (p := ⟨bb, n, none⟩) _ (fun h => HB1.out.in_.2)).setCell (p := ⟨bf, 2, none⟩) _ (fun h => HB1.out.in_.1)
end Go.Proofs.YtphnjfbaioblbaaDoor
