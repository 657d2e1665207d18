/- The contract of (*encoding.OID).ReadFrom over a source, where there is enough to read. -/
import Derived.Test.YtllcfihbepmphaaDoorMpi
import Derived.Test.YtllcfihbepmphaaDoorV3
set_option linter.unusedVariables false
set_option linter.unusedSimpArgs false
namespace Go.Proofs.YtllcfihbepmphaaDoor
open Go.RowKit V
theorem wpList_make_kk {P : Program} {ops : Array Oper} {rest : List Oper} {o : Oper} {a : Act} {Q : Exit → Act → World → Prop} {w : World} (hgd : o.guard = none) (l : Operand) (t : TypeId)
    (ho : o.op = .makeSlice t l l) (e : TypeId) (k : IntKind) (bytes : Nat) (ht : P.underlying t = some (.slice e)) (hinfo : (P.info? e).map (fun i => (i.zero, i.size, i.bytes)) = some (some (.int k 0), 1, bytes)) (hb0 : 0 < bytes)
    (kk : IntKind) (m : Nat) (n : Int) (hs : a.eval l = .int kk n) (hmn : (m : Int) = n) (hn : m * bytes ≤ 281474976710656)
    (h : ∀ w1 g, As (g = w.heap.size) → Own w1 w.heap.size e k (.slice (some ⟨g, 0, none⟩) m m) (List.replicate m 0) → Chg NoB w w1 → w1.heap.size = w.heap.size + 1 → wpList P ops Q rest (a.put o.dst (.slice (some ⟨g, 0, none⟩) m m)) w1) :
    wpList P ops Q (o :: rest) a w := by
  subst hmn
  have hml : m ≤ 281474976710656 := Nat.le_trans (Nat.le_mul_of_pos_right _ hb0) hn
  have hr := run_make_row' (P := P) t e (.int k 0) bytes ht hinfo rfl kk kk m (by rw [Nat.mul_comm]; exact hn) (by omega) w
  refine wpList_plain hgd fun K hK => ?_
  unfold Oper.wp execOp
  simp only [ho, hs, Sem.run_bind, hr, Result.andThen_ok, Sem.run_pure]
  exact hK _ _ (h _ _ ⟨rfl⟩ (own_made w w.heap.size e k m (Nat.le_refl _) (by simp only [maxLen]; omega)) ((Chg.refl _ _).alloc _) (Array.size_push _))
set_option maxRecDepth 100000 in
set_option maxHeartbeats 2000000 in
theorem oidRead_ok (base g s nb t : Nat) (xs : List Int) (sp : Int) (w : World) (a0 a1 : Addr) (hS : Sent w a0 a1) (hB : 0 < base ∧ 1 < base ∧ a0.block < base ∧ a1.block < base) (hs : Src w base s xs sp) (hm : Blk w g 127 [.slice none 0 0])
    (hgs : g ≠ s) (hbs : base ≤ s) (hbg : base ≤ g) (hxl : xs.length ≤ 2097152) (hx0 : rd xs 0 = (nb : Int)) (hn1 : 1 ≤ nb) (hn2 : nb ≤ 254) (ht : t = 1 + nb) (hlen : t ≤ xs.length) :
    Calls Tryd.prog 48 #[.pointer (some ⟨g, 0, none⟩), .iface 109 (.pointer (some ⟨s, 0, none⟩))] w fun e w' => Chg (fun b => base ≤ b) w w' ∧ ∃ v, e = .returned (.tuple #[.int .i64 t, .nilIface]) ∧ Blk w' g 127 [v] ∧ Own w' base 5 .u8 v ((xs.drop 1).take nb) := by
  have HS := As.mk hS
  have HB := As.mk hB
  have HSR := As.mk hs
  have HM := As.mk hm
  have hsl : s < w.heap.size := by obtain ⟨A, c, hb, _⟩ := hs; exact hb.lt
  have hgl := hm.lt
  have HXL := As.mk hxl
  have HLEN := As.mk hlen
  have HT := As.mk ht
  have HX0 := As.mk hx0
  have hnz : ((nb : Int) == 0) = false := by simp; omega
  have hn255 : ((nb : Int) == 255) = false := by simp; omega
  have hwt : IntKind.i64.wrap (1 + (nb : Int)) = (t : Int) := by rw [ht]; simp [IntKind.wrap, IntKind.bits, IntKind.signed]; omega
  clear hS hB hs hm hxl hlen hx0
  go_enter Tryd.func48, Tryd.ntmps48
  go_wp2_with fail
  have hc0 : Chg NoB w (w.alloc (.cells (nums .u8 [0]).toArray 151)) := (Chg.refl NoB w).alloc _
  refine (readFull_any 151 base s w.heap.size 1 1 xs [0] sp _ a0 a1 (HS.out.keep hc0) HB.out (HSR.out.keep hc0) (own_lit w base 151 .u8 [0] (by omega) (by simp [maxLen])) rfl (by omega) hbs (by omega) (by omega) HXL.out (by omega)).mono ?_
  rintro e w1 ⟨hc1, hm1⟩
  have HC1 : As (Chg (fun b => base ≤ b) w w1) := ⟨(hc0.mono (fun _ _ e => e.elim)).trans hc1 (fun i hi e => by rcases e with e | e <;> omega)⟩
  have HM1 : As (Blk w1 g 127 [.slice none 0 0]) := ⟨(HM.out.alloc _).chg hc1 (by omega)⟩
  clear hc1 hc0
  rcases hm1 with ⟨h1, rfl, h3, h4⟩ | ⟨h1, he⟩
  · obtain ⟨k0, f0⟩ := own_at h4 0 (by rw [List.length_take]; omega)
    have e0 : rd (xs.take 1) ((0 : Nat) : Int) = rd xs 0 := by
      cases xs with
      | nil => simp at h1
      | cons a l => simp [rd]
    rw [e0, HX0.out] at k0
    have m0 := HM1.out.cell 0
    have mf0 := HM1.out.frozen 0
    simp only [List.getElem?_cons_zero] at m0
    have HSR1 := As.mk h3
    have hgl1 : g < w1.heap.size := HM1.out.lt
    clear h1 h3 h4 e0 ht
    go_wp2_with ((with_reducible refine gate (N := 34) rfl ?_); refine wpList_make_kk rfl _ 22 rfl 5 .u8 1 Tryd.underlying22 info8 (by decide) .u8 nb _ rfl rfl (by omega) ?_; intro w2 g2 HG2 ho2 hc2 hz2; have hbm2 := HM1.out.chg hc2 (fun e => e); have m0 := hbm2.cell 0; have mf0 := hbm2.frozen 0; simp only [List.getElem?_cons_zero] at m0; have HBM2 := As.mk hbm2; have HO2 := As.mk ho2; have HC2 := As.mk hc2; have hgb2 := own_blocks ho2; have HGB2 := As.mk hgb2; clear hbm2 ho2 hc2 hz2 hgb2)
    have hg2 : w1.heap.size ≤ g2 := HGB2.out.1
    obtain ⟨w3, hw3⟩ : ∃ w3, w3 = w2.setCell ⟨g, 0, none⟩ (.slice (some ⟨g2, 0, none⟩) nb nb) := ⟨_, rfl⟩
    have hcs : Chg (fun b => b = g) w2 w3 := by rw [hw3]; exact (Chg.refl _ w2).setCell (p := ⟨g, 0, none⟩) _ (fun _ => rfl)
    have hc13 : Chg (fun b => b = g) w1 w3 := (HC2.out.mono (fun _ _ e => e.elim)).trans hcs (fun _ _ e => e)
    have HC3 : As (Chg (fun b => base ≤ b) w w3) := ⟨HC1.out.trans hc13 (fun i _ e => by omega)⟩
    have HBM3 : As (Blk w3 g 127 [.slice (some ⟨g2, 0, none⟩) nb nb]) := ⟨by rw [hw3]; exact HBM2.out.set_ 0 _⟩
    have hS3 : Sent w3 a0 a1 := HS.out.chg HB.out HC3.out (fun i hi e => by omega)
    have hSrc3 : Src w3 base s (xs.drop 1) sp := HSR1.out.chg hc13 (fun e => hgs e.symm) (fun b hb e => by omega)
    have hOwn3 : Own w3 base 5 .u8 (.slice (some ⟨g2, 0, none⟩) nb nb) (List.replicate nb 0) := own_chg (own_lower HO2.out (by omega)) hcs (fun b hb e => by simp [Value.ownBlock] at hb; omega)
    rw [← hw3]
    refine (readFull_any 5 base s g2 nb nb (xs.drop 1) (List.replicate nb 0) sp w3 a0 a1 hS3 HB.out hSrc3 hOwn3 (by simp) (by have := HC1.out.size; omega) hbs (by omega) (Nat.le_refl _) (by rw [List.length_drop]; have := HXL.out; omega) (by omega)).mono ?_
    rintro e w4 ⟨hc4, hm4⟩
    have HC4 : As (Chg (fun b => base ≤ b) w w4) := ⟨HC3.out.trans hc4 (fun i hi e => by rcases e with e | e <;> omega)⟩
    have hS4 : Sent w4 a0 a1 := HS.out.chg HB.out HC4.out (fun i hi e => by omega)
    have g0 := hS4.1
    have HBM4 : As (Blk w4 g 127 [.slice (some ⟨g2, 0, none⟩) nb nb]) := ⟨HBM3.out.chg hc4 (by omega)⟩
    have nl := fun w => run_eql_iface_nil_left (P := Tryd.prog) w 156 (.pointer (some a0)) Tryd.underlying94
    clear hc4 hS4 hS3 hSrc3 hOwn3 hw3 hcs hc13
    rcases hm4 with ⟨h1, rfl, _, h4⟩ | ⟨h1, he⟩
    · have HO4 := As.mk h4
      clear h1 h4
      go_wp2_with fail
      go_ret2
      exact ⟨HC4.out, _, rfl, HBM4.out, HO4.out⟩
    · exfalso
      rw [List.length_drop] at h1
      have := HLEN.out
      have := HT.out
      omega
  · exfalso
    have := HLEN.out
    omega
end Go.Proofs.YtllcfihbepmphaaDoor
