/- The contract of impl.ReadS2k where a specifier is read. -/
import Derived.Test.YthambncffcphkaaDoorReadS2k
set_option linter.unusedVariables false
set_option linter.unusedSimpArgs false
namespace Go.Proofs.YthambncffcphkaaDoor
open Go.RowKit V
set_option maxRecDepth 100000 in
set_option maxHeartbeats 4000000 in
theorem readS2k_ok (k : Nat) (ps rest : List Int) (size : Nat) (A : Option Addr) (n c : Nat) (xs : List Int) (sp : Int) (w : World) (hn : n = xs.length) (hnc : n ≤ c) (hl : n ≤ 1048576) (hx : Rb w A xs) (hk : k = 0 ∨ k = 1 ∨ k = 3 ∨ k = 4) (hps : rd ps 0 = (k : Int)) (hpl : ps.length = 22) (hsz : rest.length + size = n)
    (hp : Calls Tryd.prog 19 #[.iface 58 (.pointer (some ⟨w.heap.size + 1, 0, none⟩))] (W2 A n c sp w) (ParsedOf (W2 A n c sp w) w.heap.size (w.heap.size + 1) ps rest sp)) :
    Calls Tryd.prog 10 #[.slice A n c, .int .i64 sp] w (S2kOf w k (rd ps 1) (saltL k ps) (rd ps 18) (rd ps 19) (rd ps 20) (rd ps 21) size) := by
  have HP := As.mk hp
  obtain ⟨_, hc0, hb0, hz0⟩ := w2_src (sp := sp) hn hnc hx
  have HC0 := As.mk hc0
  have HB0 := As.mk hb0
  have HZ0 := As.mk hz0
  have HK := As.mk hk
  have HPL := As.mk hpl
  have HPS := As.mk hps
  have HSZ := As.mk hsz
  clear hp hc0 hb0 hn hx hz0 hk hpl hps hsz
  unfold W2 at HP HC0 HB0 HZ0
  go_enter Tryd.func10, Tryd.ntmps10
  go_wp2_with fail
  refine HP.out.mono ?_
  rintro e w1 ⟨hc1, g, rfl, hg, how, hsrc⟩
  have HC1 : As (Chg NoB w w1) := ⟨HC0.out.trans hc1 (fun i hi e => by omega)⟩
  have hg2 : w.heap.size + 2 ≤ g := by have := HZ0.out; omega
  have B1 := As.mk (HB0.out.chg hc1 (fun e => by omega))
  obtain ⟨A', c', hbs, hmc, hrs, _⟩ := hsrc
  obtain ⟨m, hm⟩ : ∃ m, m = rest.length := ⟨_, rfl⟩
  rw [← hm] at hbs
  have HBS := As.mk hbs
  have HOW := As.mk how
  have c0 := (own_at how 0 (by have := HPL.out; omega)).1
  have c1 := (own_at how 1 (by have := HPL.out; omega)).1
  have c18 := (own_at how 18 (by have := HPL.out; omega)).1
  have c19 := (own_at how 19 (by have := HPL.out; omega)).1
  have c20 := (own_at how 20 (by have := HPL.out; omega)).1
  have c21 := (own_at how 21 (by have := HPL.out; omega)).1
  rw [show rd ps ((0 : Nat) : Int) = (k : Int) from HPS.out] at c0
  have e1 : rd ps ((1 : Nat) : Int) = rd ps 1 := rfl
  have e18 : rd ps ((18 : Nat) : Int) = rd ps 18 := rfl
  have e19 : rd ps ((19 : Nat) : Int) = rd ps 19 := rfl
  have e20 : rd ps ((20 : Nat) : Int) = rd ps 20 := rfl
  have e21 : rd ps ((21 : Nat) : Int) = rd ps 21 := rfl
  rw [e1] at c1
  rw [e18] at c18
  rw [e19] at c19
  rw [e20] at c20
  rw [e21] at c21
  clear e1 e18 e19 e20 e21
  generalize rd ps 1 = h at *
  generalize rd ps 18 = cnt at *
  generalize rd ps 19 = pp at *
  generalize rd ps 20 = y at *
  generalize rd ps 21 = r at *
  obtain ⟨A3, n3, c3, hsv, hn3, hn16, hr3⟩ := salt_reads how k
  have hcells := As.mk (zzFields_any g k h cnt pp y r w1 HK.out c0 c1 c18 c19 c20 c21 (by rcases HK.out with rfl | rfl | rfl | rfl <;> decide))
  rw [hsv] at hcells
  have HR3 := As.mk hr3
  have HN3 := As.mk hn3
  have hwz : IntKind.i64.wrap ((n : Int) - (m : Int)) = (size : Int) := by have := HSZ.out; simp [IntKind.wrap, IntKind.bits, IntKind.signed]; omega
  have hml : m ≤ 1048576 := by have := HSZ.out; omega
  have hkb : (k : Int) ≤ 255 := by rcases HK.out with rfl | rfl | rfl | rfl <;> decide
  clear hc1 hg how hbs hmc hrs hm c0 c1 c18 c19 c20 c21 hsv hn3 hr3
  go_wp2_with fail
  refine hcells.out.mono ?_
  rintro e w2' ⟨rfl, nn, rfl⟩
  obtain ⟨w2, hw2⟩ : ∃ w2, w2 = w1.drewN nn := ⟨_, rfl⟩
  have HC2 : As (Chg NoB w w2) := ⟨by rw [hw2]; exact HC1.out.drewN nn⟩
  have HB2 : As (Blk w2 w.heap.size 37 [.int .u8 0, .int .u8 0, .slice none 0 0, .int .u8 0, .int .u8 0, .int .u8 0, .int .u8 0]) := ⟨by rw [hw2]; exact B1.out.drewN nn⟩
  have HS2 : As (Blk w2 (w.heap.size + 1) 60 [.slice A' m c', .int .i64 sp]) := ⟨by rw [hw2]; exact HBS.out.drewN nn⟩
  have HR2 : As (Rb w2 A3 (saltL k ps)) := ⟨by rw [hw2]; exact HR3.out.drewN nn⟩
  rw [← hw2]
  clear hw2
  have KQ : As (∀ w', Chg (fun b => b = w.heap.size) w2 w' → w'.cell? ⟨w.heap.size + 1, 0, none⟩ = some (.slice A' m c')) := ⟨fun w' h => (HS2.out.chg h (fun e => by omega)).cell 0⟩
  have q0 := KQ.out _ (Chg.refl _ _)
  have HBB : As (Chg NoB w2 w2) := ⟨Chg.refl _ _⟩
  go_upto_region 6 with fail
  go_cut [5, 6] (fun s5 s6 wx => s5 = .int .i64 (size : Int) ∧ s6 = .int .i64 0 ∧ ∃ (A4 : Option Addr) (c4 : Nat), As (Chg NoB w wx) ∧ As (Blk wx w.heap.size 37 [.int .u8 (k : Int), .int .u8 h, .slice A4 n3 c4, .int .u8 cnt, .int .u8 pp, .int .u8 y, .int .u8 r]) ∧ As (Rb wx A4 (saltL k ps)))
  case first =>
    go_region_held3 (fun w' => w'.cell? ⟨w.heap.size + 1, 0, none⟩ = some (.slice A' m c')) (exact KQ.out _ (by repeat (first | (with_reducible apply Chg.drew) | (with_reducible apply Chg.alloc) | (refine Chg.setCell ?_ _ (fun _ => rfl)) | exact HBB.out.mono (fun _ _ e => e.elim)))) (first
      | (go_at_call 13
         refine (own_any A3 n3 c3 (saltL k ps) _ HN3.out (HR2.out.keep ?r1) ?r2).mono ?_
         case r1 => exact (by repeat (first | (with_reducible exact HBB.out) | (with_reducible apply Chg.drew) | (with_reducible apply Chg.alloc)))
         case r2 => (have := HN3.out; omega)
         rintro e w5 ⟨v5, rfl, ho5, hc5⟩
         obtain ⟨A4, c4, rfl, _, _, _⟩ := own_form ho5
         rw [← HN3.out]
         have hc5' : Chg NoB w2 w5 := Chg.trans (by repeat (first | (with_reducible exact HBB.out) | (with_reducible apply Chg.drew) | (with_reducible apply Chg.alloc))) hc5 (fun _ _ e => e)
         have HBB5 := As.mk hc5'
         have b5 := HB2.out.chg hc5' (fun e => e)
         have B5 := As.mk b5
         have HR5 := As.mk (Rf.of_ow (B := w.heap.size + 1) (.inl ho5) (Nat.le_trans HB2.out.lt (Chg.size (S := NoB) (by repeat (first | (with_reducible exact HBB.out) | (with_reducible apply Chg.drew) | (with_reducible apply Chg.alloc))))))
         have x0 := b5.cell 0
         have x1 := b5.cell 1
         have x2 := b5.cell 2
         have x3 := b5.cell 3
         have x4 := b5.cell 4
         have x5 := b5.cell 5
         have x6 := b5.cell 6
         have y0 := b5.frozen 0
         have y1 := b5.frozen 1
         have y2 := b5.frozen 2
         have y3 := b5.frozen 3
         have y4 := b5.frozen 4
         have y5 := b5.frozen 5
         have y6 := b5.frozen 6
         simp only [List.getElem?_cons_zero, List.getElem?_cons_succ] at x0 x1 x2 x3 x4 x5 x6
         clear HBB b5 hc5 hc5' ho5
         have HBB := HBB5
         clear HBB5))
    all_goals
      go_wp2_with fail
      go_meet
      have hfin := Chg.setCell (Chg.setCell (Chg.setCell (Chg.setCell (Chg.setCell (Chg.setCell (Chg.setCell (Chg.refl (fun b => b = w.heap.size) w5) (p := ⟨w.heap.size, 0, none⟩) (.int .u8 (k : Int)) (fun _ => rfl)) (p := ⟨w.heap.size, 1, none⟩) (.int .u8 h) (fun _ => rfl)) (p := ⟨w.heap.size, 2, none⟩) (.slice A4 n3 c4) (fun _ => rfl)) (p := ⟨w.heap.size, 3, none⟩) (.int .u8 cnt) (fun _ => rfl)) (p := ⟨w.heap.size, 4, none⟩) (.int .u8 pp) (fun _ => rfl)) (p := ⟨w.heap.size, 5, none⟩) (.int .u8 y) (fun _ => rfl)) (p := ⟨w.heap.size, 6, none⟩) (.int .u8 r) (fun _ => rfl)
      exact ⟨rfl, rfl, A4, c4, ⟨(HC2.out.trans HBB.out (fun _ _ e => e)).trans (S' := fun b => b = w.heap.size) hfin (fun i hi e => by omega)⟩, ⟨((((((B5.out.set_ 0 _).set_ 1 _).set_ 2 _).set_ 3 _).set_ 4 _).set_ 5 _).set_ 6 _⟩, ⟨(HR5.out.chg (S := fun b => b = w.heap.size) hfin (fun b _ hb e => by omega)).1⟩⟩
  case rest =>
    obtain ⟨rfl, rfl, A4, c4, C6, B6, R6⟩ := hcut
    have b6 := B6.out
    have x0 := b6.cell 0
    have x1 := b6.cell 1
    have x2 := b6.cell 2
    have x3 := b6.cell 3
    have x4 := b6.cell 4
    have x5 := b6.cell 5
    have x6 := b6.cell 6
    simp only [List.getElem?_cons_zero, List.getElem?_cons_succ] at x0 x1 x2 x3 x4 x5 x6
    clear b6 q0
    go_wp2_with fail
    refine bodyPost_ret (v := .tuple #[.agg #[.int .u8 (k : Int), .int .u8 h, .slice A4 n3 c4, .int .u8 cnt, .int .u8 pp, .int .u8 y, .int .u8 r], .int .i64 (size : Int), .int .i64 0]) ?_ rfl ⟨C6.out, A4, n3, c4, HN3.out, rfl, R6.out⟩
    · rw [results_cell_tmp2 rfl]
      go_simp
end Go.Proofs.YthambncffcphkaaDoor
