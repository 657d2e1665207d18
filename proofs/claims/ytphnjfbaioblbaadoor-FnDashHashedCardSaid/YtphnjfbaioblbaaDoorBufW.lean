/- A bufio.Writer over a sink, and the contracts of its Flush, Available and Buffered. -/
import Derived.Test.YtphnjfbaioblbaaDoorSnk
set_option linter.unusedVariables false
set_option linter.unusedSimpArgs false
namespace Go.Proofs.YtphnjfbaioblbaaDoor
open Go.RowKit V
theorem nil_ahead (a : Addr) (w : World) : (nilAhead 239 31 (.pointer (some a)) "Write").run Tryd.prog w = .ok (some false) w := by kernel_rfl
theorem method_write (a : Addr) (w : World) : (method 239 31 (.pointer (some a)) "Write").run Tryd.prog w = .ok (35, .pointer (some a)) w := by kernel_rfl
/-- The cells of a buffered writer that has met no error. -/
def bwCells (bb g n : Nat) : List Value := [.nilIface, .slice (some ⟨bb, 0, none⟩) 4096 4096, .int .i64 n, .iface 31 (.pointer (some ⟨g, 0, none⟩))]
/-- A buffered writer at bf, its buffer at bb with n bytes in it, over a sink at g; it has been given at most L bytes. -/
structure Bw (w : World) (base bf bb g : Nat) (F : Nat → Prop) (n L : Nat) : Prop where
  ex : ∃ Fs xs zs, Snk w base g Fs xs ∧ xs.length + n ≤ L ∧ n ≤ 4096 ∧ zs.length = 4096 ∧ Blk w bf 57 (bwCells bb g n) ∧ Own w base 5 .u8 (.slice (some ⟨bb, 0, none⟩) 4096 4096) zs ∧ bf ≠ bb ∧ ¬ Fs bf ∧ ¬ Fs bb ∧ ∀ b, F b ↔ b = bf ∨ b = bb ∨ Fs b
theorem Bw.lt {w : World} {base bf bb g n L : Nat} {F : Nat → Prop} (h : Bw w base bf bb g F n L) : ∀ b, F b → b < w.heap.size := by
  obtain ⟨Fs, xs, zs, h1, _, _, _, h5, h6, _, _, _, h9⟩ := h.ex
  intro b hb
  rcases (h9 b).1 hb with rfl | rfl | e
  · exact h5.lt
  · exact (own_block_lt h6 _ rfl).2
  · exact h1.lt b e
theorem Bw.chg {w w' : World} {base bf bb g n L : Nat} {F S : Nat → Prop} (h : Bw w base bf bb g F n L) (hc : Chg S w w') (hs : ∀ b, F b → ¬ S b) : Bw w' base bf bb g F n L := by
  obtain ⟨Fs, xs, zs, h1, h2, h3, h4, h5, h6, h7, h8, h8', h9⟩ := h.ex
  exact ⟨Fs, xs, zs, h1.chg hc (fun b e => hs b ((h9 b).2 (.inr (.inr e)))), h2, h3, h4, h5.chg hc (hs _ ((h9 _).2 (.inl rfl))), own_chg h6 hc (fun b e => by injection e with e; subst e; exact hs _ ((h9 _).2 (.inr (.inl rfl)))), h7, h8, h8', h9⟩
theorem Bw.le {w : World} {base bf bb g n L L' : Nat} {F : Nat → Prop} (h : Bw w base bf bb g F n L) (hl : L ≤ L') : Bw w base bf bb g F n L' := by
  obtain ⟨Fs, xs, zs, h1, h2, h3⟩ := h.ex
  exact ⟨Fs, xs, zs, h1, Nat.le_trans h2 hl, h3⟩
theorem Bw.small {w : World} {base bf bb g n L : Nat} {F : Nat → Prop} (h : Bw w base bf bb g F n L) : n ≤ 4096 := by
  obtain ⟨Fs, xs, zs, _, _, h3, _⟩ := h.ex
  exact h3
theorem Bw.blk {w : World} {base bf bb g n L : Nat} {F : Nat → Prop} (h : Bw w base bf bb g F n L) : Blk w bf 57 (bwCells bb g n) := by
  obtain ⟨Fs, xs, zs, _, _, _, _, h5, _⟩ := h.ex
  exact h5
/-- The counter set. -/
theorem Bw.count {w : World} {base bf bb g n n' L L' : Nat} {F : Nat → Prop} (h : Bw w base bf bb g F n L) (hn : n' ≤ 4096) (hl : L + n' ≤ L' + n) : Bw (w.setCell ⟨bf, 2, none⟩ (.int .i64 n')) base bf bb g F n' L' := by
  obtain ⟨Fs, xs, zs, h1, h2, h3, h4, h5, h6, h7, h8, h8', h9⟩ := h.ex
  have hc := (Chg.refl (fun b => b = bf) w).setCell (p := ⟨bf, 2, none⟩) (.int .i64 n') (fun _ => rfl)
  refine ⟨Fs, xs, zs, h1.chg hc (fun b e q => h8 (q ▸ e)), by omega, hn, h4, h5.set_ 2 _, own_chg h6 hc (fun b e q => by injection e with e; exact h7 (q.symm.trans e.symm)), h7, h8, h8', h9⟩
theorem bw_cut (bb n : Nat) (hn : n ≤ 4096) (W : World) : (Instr.slice 25 (.slice (some ⟨bb, 0, none⟩) 4096 4096) (some (.int .i64 0)) (some (.int .i64 n)) none).run Tryd.prog W = .ok (.slice (some ⟨bb, 0, none⟩) n 4096) W := by
  have h := run_cut_raw (P := Tryd.prog) 25 5 Tryd.underlying25 size8 (some ⟨bb, 0, none⟩) 4096 4096 0 n .i64 .i64 (by omega) (by omega) (by omega) W
  rw [h]
  simp [Addr.add]
/-- What a call on it leaves. -/
def BwLeft (w : World) (base bf bb g : Nat) (F : Nat → Prop) (n L : Nat) (w' : World) : Prop :=
  ∃ F', Bw w' base bf bb g F' n L ∧ Chg F w w' ∧ Grew F w F'
set_option maxRecDepth 100000 in
set_option maxHeartbeats 1000000 in
theorem bufFlush_any (base bf bb g n L : Nat) (F : Nat → Prop) (w : World) (hs : Bw w base bf bb g F n L) (hb : base ≤ w.heap.size) (hl : L ≤ 140737488355328) :
    Calls Tryd.prog 16 #[.pointer (some ⟨bf, 0, none⟩)] w fun e w' => e = .returned .nilIface ∧ BwLeft w base bf bb g F 0 L w' := by
  have hn := hs.small
  have HB := As.mk hs
  have c0 := hs.blk.cell 0
  have c1 := hs.blk.cell 1
  have c2 := hs.blk.cell 2
  have c3 := hs.blk.cell 3
  simp only [bwCells, List.getElem?_cons_zero, List.getElem?_cons_succ] at c0 c1 c2 c3
  have na := nil_ahead
  have mw := method_write
  clear hs
  by_cases h0 : n = 0
  · subst h0
    go_enter Tryd.func16, Tryd.ntmps16
    go_wp2_with fail
    go_ret
    exact ⟨rfl, F, HB.out, Chg.refl _ _, Grew.refl _ _⟩
  · have h1 : ((n : Int) == 0) = false := by simp; omega
    have e1 : IntKind.i64.wrap (n : Int) = n := by rw [IntKind.wrap_i64]; omega
    obtain ⟨Fs, xs, zs, hsnk, hxl, _, hzl, hblk, hown, hne, hnf, hnb, hF⟩ := HB.out.ex
    have HSN := As.mk hsnk
    have HXL := As.mk hxl
    have HZL := As.mk hzl
    have HBK := As.mk hblk
    have HOW := As.mk hown
    have HNE := As.mk hne
    have HNF := As.mk hnf
    have HNB := As.mk hnb
    have HFF := As.mk hF
    have HRB : As (Rb w (some ⟨bb, 0, none⟩) (zs.take n)) := ⟨(own_reads hown).take_ n⟩
    have HTL : As (n = (zs.take n).length) := ⟨by rw [List.length_take, hzl]; omega⟩
    clear hsnk hxl hzl hblk hown hne hnf hnb hF
    have hcut := bw_cut bb n hn
    go_enter Tryd.func16, Tryd.ntmps16
    go_wp2_with fail
    go_region_law (first
    | (go_simp
       refine (snkWrite_any base g n 4096 Fs (some ⟨bb, 0, none⟩) xs (zs.take n) _ HTL.out (HSN.out.chg (Chg.refl NoB w).drew (fun _ _ e => e)) hb HRB.out.drew (by rw [← HTL.out]; have := HXL.out; omega)).mono ?_
       rintro e w2 ⟨rfl, F', hs2, hc2, hg2⟩
       have HC2 : As (Chg Fs w w2) := ⟨((Chg.refl Fs w).drew).trans hc2 (fun _ _ e => e)⟩
       have HS2 := As.mk hs2
       have HG2 : As (Grew Fs w F') := ⟨hg2⟩
       have b2 := HBK.out.chg HC2.out HNF.out
       have HB2 : As (Bw w2 base bf bb g (fun b => b = bf ∨ b = bb ∨ F' b) n (L + n)) := ⟨⟨F', _, zs, hs2, by rw [List.length_append, ← HTL.out]; have := HXL.out; omega, hn, HZL.out, b2, own_chg HOW.out HC2.out (fun b e => by injection e with e; subst e; exact HNB.out), HNE.out, (fun h => hg2.apart (G := fun b => b = bf) (fun b h e => HNF.out (e ▸ h)) (fun b e => by subst e; exact HBK.out.lt) bf h rfl), (fun h => hg2.apart (G := fun b => b = bb) (fun b h e => HNB.out (e ▸ h)) (fun b e => by subst e; exact (own_block_lt HOW.out _ rfl).2) bb h rfl), fun b => Iff.rfl⟩⟩
       have d2 := b2.cell 2
       have f2 := b2.frozen 2
       simp only [bwCells, List.getElem?_cons_zero, List.getElem?_cons_succ] at d2
       clear hs2 hc2 hg2 b2))
    all_goals
      go_wp2_with fail
      go_ret
      refine ⟨rfl, _, HB2.out.count (n' := 0) (L' := L) (by omega) (by omega), ?_, ?_⟩
      · exact (HC2.out.mono (fun i _ e => (HFF.out i).2 (.inr (.inr e)))).setCell (p := ⟨bf, 2, none⟩) _ (fun _ => (HFF.out _).2 (.inl rfl))
      · rintro b (rfl | rfl | e)
        · exact .inl ((HFF.out _).2 (.inl rfl))
        · exact .inl ((HFF.out _).2 (.inr (.inl rfl)))
        · rcases HG2.out b e with h | h
          · exact .inl ((HFF.out _).2 (.inr (.inr h)))
          · exact .inr h
end Go.Proofs.YtphnjfbaioblbaaDoor
