/- The contract of (*encoding.MPI).ReadFrom over a source. -/
import Derived.Test.YtllcfihbepmphaaDoorReadFull2
import Derived.Test.YtllcfihbepmphaaDoorBitsP
set_option linter.unusedVariables false
set_option linter.unusedSimpArgs false
namespace Go.Proofs.YtllcfihbepmphaaDoor
open Go.RowKit V
theorem ptrOther {w : World} {a0 a1 : Addr} (h : Sent w a0 a1) : (binOp .eql 94 (.iface 156 (.pointer (some a1))) (.iface 156 (.pointer (some a0)))).run Tryd.prog w = .ok (.bool false) w := by
  have h1 : (Tryd.prog.info? 156).map (·.comparable) = some true := by kernel_rfl
  have h2 : (Tryd.prog.info? 186).map (·.size) = some 1 := by kernel_rfl
  obtain ⟨i, hi, hc⟩ := Option.map_eq_some_iff.1 h1
  obtain ⟨j, hj, hz⟩ := Option.map_eq_some_iff.1 h2
  obtain ⟨_, _, hne, ⟨c0, t0, k0⟩, ⟨c1, t1, k1⟩⟩ := h
  exact run_eql_iface_ptr_other w Tryd.underlying94 Tryd.underlying156 hi hc hj (by rw [hz]; decide) hne.symm k1 k0
/-- Go's bytes of a number of so many bits. -/
def nBytes (b : Nat) : Nat := (b + 7) / 8
def MpiRead (w : World) (base g : Nat) (xs : List Int) (a1 : Addr) (e : Ending) (w' : World) : Prop :=
  Chg (fun b => base ≤ b) w w' ∧
  ((∃ (b : Nat) (v : Value), (b : Int) = rd xs 0 * 256 + rd xs 1 ∧ 2 + nBytes b ≤ xs.length ∧ e = .returned (.tuple #[.int .i64 (2 + nBytes b : Nat), .nilIface]) ∧ Blk w' g 120 [v, .int .u16 b] ∧ Own w' base 5 .u8 v ((xs.drop 2).take (nBytes b))) ∨
   ((xs.length < 2 ∨ ∃ b : Nat, (b : Int) = rd xs 0 * 256 + rd xs 1 ∧ xs.length < 2 + nBytes b) ∧ ∃ k : Int, e = .returned (.tuple #[.int .i64 k, .iface 156 (.pointer (some a1))])))
theorem u16_or256N : ∀ a b : Nat, a < 256 → b < 256 → bits .or .u16 ((a * 256 : Nat) : Int) (b : Int) = ((a * 256 + b : Nat) : Int) := by
  intro a b ha hb
  rw [u16_or_nat (a * 256) b (by omega) (by omega), nat_join 8 (a * 256) b (by omega) (by omega)]
set_option maxRecDepth 100000 in
set_option maxHeartbeats 2000000 in
theorem mpiRead_any (base g s : Nat) (xs : List Int) (sp : Int) (w : World) (a0 a1 : Addr) (hS : Sent w a0 a1) (hB : 0 < base ∧ 1 < base ∧ a0.block < base ∧ a1.block < base) (hs : Src w base s xs sp) (hm : Blk w g 120 [.slice none 0 0, .int .u16 0])
    (hgs : g ≠ s) (hbs : base ≤ s) (hbg : base ≤ g) (hxl : xs.length ≤ 2097152) (hby : Byt xs) :
    Calls Tryd.prog 44 #[.pointer (some ⟨g, 0, none⟩), .iface 109 (.pointer (some ⟨s, 0, none⟩))] w (MpiRead w base g xs a1) := by
  have HS := As.mk hS
  have HB := As.mk hB
  have HSR := As.mk hs
  have HM := As.mk hm
  have HBY := As.mk hby
  have hsl : s < w.heap.size := by obtain ⟨A, c, hb, _⟩ := hs; exact hb.lt
  have hgl := hm.lt
  have HXL := As.mk hxl
  clear hS hB hs hm hby hxl
  go_enter Tryd.func44, Tryd.ntmps44
  go_wp2_with fail
  have hc0 : Chg NoB w (w.alloc (.cells (nums .u8 [0, 0]).toArray 72)) := (Chg.refl NoB w).alloc _
  refine (readFull_any 72 base s w.heap.size 2 2 xs [0, 0] sp _ a0 a1 (HS.out.keep hc0) HB.out (HSR.out.keep hc0) (own_lit w base 72 .u8 [0, 0] (by omega) (by simp [maxLen])) rfl (by omega) hbs (by omega) (by omega) HXL.out (by omega)).mono ?_
  rintro e w1 ⟨hc1, hm1⟩
  have HC1 : As (Chg (fun b => base ≤ b) w w1) := ⟨(hc0.mono (fun _ _ e => e.elim)).trans hc1 (fun i hi e => by rcases e with e | e <;> omega)⟩
  have HS1 : As (Sent w1 a0 a1) := ⟨HS.out.chg HB.out HC1.out (fun i hi e => by omega)⟩
  have g0 := HS1.out.1
  have g1 := HS1.out.2.1
  have pq := ptrSame a0
  have po := ptrOther HS1.out
  have HM1 : As (Blk w1 g 120 [.slice none 0 0, .int .u16 0]) := ⟨(HM.out.alloc _).chg hc1 (by omega)⟩
  clear hc1 hc0
  rcases hm1 with ⟨h1, rfl, h3, h4⟩ | ⟨h1, he⟩
  · obtain ⟨k0, f0⟩ := own_at h4 0 (by rw [List.length_take]; omega)
    obtain ⟨k1, f1⟩ := own_at h4 1 (by rw [List.length_take]; omega)
    have e0 : rd (xs.take 2) ((0 : Nat) : Int) = rd xs 0 := by cases xs with
      | nil => simp at h1
      | cons a l => simp [rd]
    have e1 : rd (xs.take 2) ((1 : Nat) : Int) = rd xs 1 := by
      unfold rd
      rw [Int.toNat_natCast, show (1 : Int).toNat = 1 from rfl, List.getD_eq_getElem?_getD, List.getD_eq_getElem?_getD, List.getElem?_take, if_pos (by omega)]
    rw [e0] at k0
    rw [e1] at k1
    have b0 := HBY.out.rd 0
    have b1 := HBY.out.rd 1
    obtain ⟨p, hp⟩ := Int.eq_ofNat_of_zero_le b0.1
    obtain ⟨q, hq⟩ := Int.eq_ofNat_of_zero_le b1.1
    rw [hp] at k0 b0
    rw [hq] at k1 b1
    obtain ⟨B, hBv⟩ : ∃ B, B = p * 256 + q := ⟨_, rfl⟩
    have hor : bits .or .u16 ((p : Int) * 256) (q : Int) = (B : Int) := by
      have := u16_or256N p q (by omega) (by omega)
      rw [← hBv] at this
      rw [← this]
      congr 1
    have hBl : B ≤ 65535 := by omega
    have HBV : As ((B : Int) = rd xs 0 * 256 + rd xs 1) := ⟨by rw [hp, hq, hBv]; omega⟩
    obtain ⟨nb, hnb⟩ : ∃ nb, nb = nBytes B := ⟨_, rfl⟩
    have HNB := As.mk hnb
    have hnd : ((B : Int) + 7) / 8 = (nb : Int) := by rw [hnb]; unfold nBytes; omega
    have hp2 : (p : Int) ≤ 255 := b0.2
    have hq2 : (q : Int) ≤ 255 := b1.2
    have m0 := HM1.out.cell 0
    have m1 := HM1.out.cell 1
    have mf0 := HM1.out.frozen 0
    have mf1 := HM1.out.frozen 1
    simp only [List.getElem?_cons_zero, List.getElem?_cons_succ] at m0 m1
    have HSR1 := As.mk h3
    have HGE := As.mk h1
    have hgl1 : g < w1.heap.size := HM1.out.lt
    clear h1 h3 h4 e0 e1 b0 b1 hp hq hBv hnb
    have hnbl : nb ≤ 8192 := by have := HNB.out; unfold nBytes at this; omega
    have hbm1 : Blk (w1.setCell ⟨g, 1, none⟩ (.int .u16 (B : Int))) g 120 [.slice none 0 0, .int .u16 (B : Int)] := HM1.out.set_ 1 _
    have HBM1 := As.mk hbm1
    have HCW : As (Chg (fun b => base ≤ b) w (w1.setCell ⟨g, 1, none⟩ (.int .u16 (B : Int)))) := ⟨HC1.out.setCell (p := ⟨g, 1, none⟩) _ (fun _ => hbg)⟩
    have HCX : As (Chg (fun b => b = g) w1 (w1.setCell ⟨g, 1, none⟩ (.int .u16 (B : Int)))) := ⟨(Chg.refl _ w1).setCell (p := ⟨g, 1, none⟩) _ (fun _ => rfl)⟩
    clear hbm1
    go_wp2_with ((with_reducible refine gate (N := 43) rfl ?_); refine wpList_make_k rfl _ 22 rfl 5 .u8 1 Tryd.underlying22 info8 (by decide) nb _ rfl ?hmn (by omega) ?_; (case hmn => (first | exact hnd.symm | rfl)); intro w2 g2 HG2 ho2 hc2 hz2; have hbm2 := HBM1.out.chg hc2 (fun e => e); have m0 := hbm2.cell 0; have m1 := hbm2.cell 1; have mf0 := hbm2.frozen 0; simp only [List.getElem?_cons_zero, List.getElem?_cons_succ] at m0 m1; have HBM2 := As.mk hbm2; have HO2 := As.mk ho2; have HC2 := As.mk hc2; have hgb2 := own_blocks ho2; have HGB2 := As.mk hgb2; clear hbm2 ho2 hc2 hz2 hgb2)
    have hsz1 : (w1.setCell ⟨g, 1, none⟩ (.int .u16 (B : Int))).heap.size = w1.heap.size := by simp [World.setCell]
    have hg2 : w1.heap.size ≤ g2 := by have := HGB2.out.1; omega
    obtain ⟨w3, hw3⟩ : ∃ w3, w3 = w2.setCell ⟨g, 0, none⟩ (.slice (some ⟨g2, 0, none⟩) nb nb) := ⟨_, rfl⟩
    have hcs : Chg (fun b => b = g) w2 w3 := by rw [hw3]; exact (Chg.refl _ w2).setCell (p := ⟨g, 0, none⟩) _ (fun _ => rfl)
    have hc13 : Chg (fun b => b = g) w1 w3 := (HCX.out.trans HC2.out (fun _ _ e => e.elim)).trans hcs (fun _ _ e => e)
    have HC3 : As (Chg (fun b => base ≤ b) w w3) := ⟨HC1.out.trans hc13 (fun i _ e => by omega)⟩
    have HBM3 : As (Blk w3 g 120 [.slice (some ⟨g2, 0, none⟩) nb nb, .int .u16 (B : Int)]) := ⟨by rw [hw3]; exact HBM2.out.set_ 0 _⟩
    have hS3 : Sent w3 a0 a1 := HS.out.chg HB.out HC3.out (fun i hi e => by omega)
    have hSrc3 : Src w3 base s (xs.drop 2) sp := HSR1.out.chg hc13 (fun e => hgs e.symm) (fun b hb e => by omega)
    have hOwn3 : Own w3 base 5 .u8 (.slice (some ⟨g2, 0, none⟩) nb nb) (List.replicate nb 0) := own_chg (own_lower HO2.out (by omega)) hcs (fun b hb e => by simp [Value.ownBlock] at hb; omega)
    rw [← hw3]
    refine (readFull_any 5 base s g2 nb nb (xs.drop 2) (List.replicate nb 0) sp w3 a0 a1 hS3 HB.out hSrc3 hOwn3 (by simp) (by have := HC1.out.size; omega) hbs (by omega) (Nat.le_refl _) (by rw [List.length_drop]; have := HXL.out; omega) (by omega)).mono ?_
    rintro e w4 ⟨hc4, hm4⟩
    have HC4 : As (Chg (fun b => base ≤ b) w w4) := ⟨HC3.out.trans hc4 (fun i hi e => by rcases e with e | e <;> omega)⟩
    have hS4 : Sent w4 a0 a1 := HS.out.chg HB.out HC4.out (fun i hi e => by omega)
    have g0 := hS4.1
    have g1 := hS4.2.1
    have po4 := ptrOther hS4
    have HBM4 : As (Blk w4 g 120 [.slice (some ⟨g2, 0, none⟩) nb nb, .int .u16 (B : Int)]) := ⟨HBM3.out.chg hc4 (by omega)⟩
    clear hc4 hS4 hS3 hSrc3 hOwn3 hw3 hcs hc13
    rcases hm4 with ⟨h1, rfl, _, h4⟩ | ⟨h1, he⟩
    · have HO4 := As.mk h4
      have HLE : As (2 + nBytes B ≤ xs.length) := ⟨by rw [List.length_drop] at h1; have := HNB.out; have := HGE.out; omega⟩
      have hw2 : IntKind.i64.wrap (2 + (nb : Int)) = ((2 + nb : Nat) : Int) := by simp [IntKind.wrap, IntKind.bits, IntKind.signed]; omega
      have nl := fun w => run_eql_iface_nil_left (P := Tryd.prog) w 156 (.pointer (some a0)) Tryd.underlying94
      clear h1 h4
      go_wp2_with fail
      go_ret2
      refine ⟨HC4.out, Or.inl ⟨B, _, HBV.out, HLE.out, ?_, HBM4.out, ?_⟩⟩
      · rw [← HNB.out]; rfl
      · rw [← HNB.out]; exact HO4.out
    · have HLT : As (xs.length < 2 ∨ ∃ b : Nat, (b : Int) = rd xs 0 * 256 + rd xs 1 ∧ xs.length < 2 + nBytes b) := ⟨Or.inr ⟨B, HBV.out, by rw [List.length_drop] at h1; have := HNB.out; have := HGE.out; omega⟩⟩
      by_cases hz : (xs.drop 2).length = 0
      · rw [if_pos hz] at he
        obtain ⟨m, hme⟩ : ∃ m, m = (xs.drop 2).length := ⟨_, rfl⟩
        rw [← hme] at he
        have hml : m ≤ 2097152 := by rw [hme, List.length_drop]; have := HXL.out; omega
        subst he
        clear hz h1 hme
        go_wp2_with fail
        go_ret2
        exact ⟨HC4.out, Or.inr ⟨HLT.out, _, rfl⟩⟩
      · rw [if_neg hz] at he
        obtain ⟨m, hme⟩ : ∃ m, m = (xs.drop 2).length := ⟨_, rfl⟩
        rw [← hme] at he
        have hml : m ≤ 2097152 := by rw [hme, List.length_drop]; have := HXL.out; omega
        subst he
        clear hz h1 hme
        go_wp2_with fail
        go_ret2
        exact ⟨HC4.out, Or.inr ⟨HLT.out, _, rfl⟩⟩
  · have HSH := As.mk h1
    by_cases hz : xs.length = 0
    · rw [if_pos hz] at he
      obtain ⟨m, hme⟩ : ∃ m, m = xs.length := ⟨_, rfl⟩
      rw [← hme] at he
      subst he
      clear hz h1 hme
      go_wp2_with fail
      go_ret2
      exact ⟨HC1.out, Or.inr ⟨Or.inl HSH.out, _, rfl⟩⟩
    · rw [if_neg hz] at he
      obtain ⟨m, hme⟩ : ∃ m, m = xs.length := ⟨_, rfl⟩
      rw [← hme] at he
      subst he
      clear hz h1 hme
      go_wp2_with fail
      go_ret2
      exact ⟨HC1.out, Or.inr ⟨Or.inl HSH.out, _, rfl⟩⟩
end Go.Proofs.YtllcfihbepmphaaDoor
