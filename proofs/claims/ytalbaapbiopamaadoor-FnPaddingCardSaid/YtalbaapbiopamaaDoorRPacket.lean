/- The contract of spec.ReadPacket, at a packet of one part with a header of the new form. -/
import Derived.Test.YtalbaapbiopamaaDoorRHead
set_option linter.unusedVariables false
set_option linter.unusedSimpArgs false
namespace Go.Proofs.YtalbaapbiopamaaDoor
open Go.RowKit V
theorem results_cell_tmp2 {fn : Func} {p u v : Tmp} {ty : TypeId} (h : fn.results = #[.cell p ty, .tmp u, .tmp v]) (tmps : Array Value) (P : Program) (w : World) :
    (results fn tmps).run P w =
      ((asAddr (tmps.getD p undef)).run P w).andThen fun a w₁ => ((loadVar ty a).run P w₁).andThen fun x w₂ => .ok (.tuple #[x, tmps.getD u undef, tmps.getD v undef]) w₂ := by
  simp only [results, h]
  simp [Sem.run_bind, Result.andThen]
set_option maxRecDepth 100000 in
set_option maxHeartbeats 1000000 in
theorem readPacket_new (A : Option Addr) (n c : Nat) (xs : List Int) (w : World) (m sz a t : Nat) (g : Int) (hn : n = xs.length) (hnc : n ≤ c) (hx : Rb w A xs) (hb : Byt xs)
    (hp : 0 < n) (hg : 0 ≤ g) (hf : rd xs 0 = 192 + g) (hr : rlen xs.tail = ((m : Int), false, (sz : Int), 0)) (ha : a = 1 + sz) (hsz : sz ≤ 5) (hm : m ≤ 4294967296) (ht : t = a + m) (hl : t ≤ n) (hbig : n ≤ 140737488355328) :
    Calls Tryd.prog 6 #[.slice A n c] w fun e w' => ∃ v, e = .returned (.tuple #[.agg #[.int .i64 g, v],   .int .i64 t, .int .i64 0]) ∧ Ow w' w.heap.size 5 .u8 v ((xs.drop a).take m) ∧ Chg NoB w w' := by
  have HR := As.mk hr
  have HX := As.mk hx
  have HB := As.mk hb
  have HN := As.mk hn
  have HF := As.mk hf
  have HA := As.mk ha
  have HP := As.mk hp
  obtain ⟨A2, hcut, _, hA2⟩ := cut_mid (P := Tryd.prog) 23 5 Tryd.underlying23 size8 A n c a t .i64 .i64 m (c - a) (by omega) (by omega) (by omega) (by omega)
  have HA2 : As (∀ w1, Rb w1 A xs → Rb w1 A2 ((xs.drop a).take m)) := ⟨fun w1 h1 => by have := hA2 w1 .u8 xs (by omega) (by omega) h1; rwa [Int.toNat_natCast] at this⟩
  have HL : As (m = ((xs.drop a).take m).length) := ⟨by rw [List.length_take, List.length_drop]; omega⟩
  have hwr : IntKind.i64.wrap ((a : Int) + (m : Int)) = (t : Int) := by
    rw [show (a : Int) + (m : Int) = ((t : Nat) : Int) from by omega]
    exact wrap_i64_id t (by omega)
  have hT := As.mk ht
  have hlt : ¬ (n : Int) - (a : Int) < (m : Int) := by omega
  have hat : a ≤ t := by omega
  clear hr hx hb hn hf hA2 ha ht
  go_enter Tryd.func6, Tryd.ntmps6
  go_wp2_with fail
  refine (readHead_new A n c xs _ m sz a false g HN.out hnc (HX.out.alloc _) HB.out hp hg HF.out HR.out HA.out hsz hm).mono ?_
  rintro e w1 ⟨rfl, hc1⟩
  have b0 := (Blk.new w 29 [.int .i64 0, .slice none 0 0]).chg hc1 (fun e => e)
  have c0 := b0.cell 0
  have c1 := b0.cell 1
  have f0 := b0.frozen 0
  simp only [List.getElem?_cons_zero, List.getElem?_cons_succ] at c0 c1
  have hgp := b0.lt
  have HC1 : As (Chg NoB w w1) := ⟨((Chg.refl _ w).alloc _).trans hc1 (fun _ _ e => e)⟩
  have B0 := As.mk b0
  clear b0 hc1
  go_wp2_with fail
  go_quiet (fail)
  have B2 := As.mk ((((B0.out.set_ 0 (.int .i64 g)).alloc (.cells #[.int .i64 g, .bool false, .int .i64 m, .bool false, .int .i64 a] 47)).drewN nq))
  have C2 := As.mk (((HC1.out.setCell (p := ⟨w.heap.size, 0, none⟩) (.int .i64 g) (fun h => absurd h (Nat.lt_irrefl _))).alloc (.cells #[.int .i64 g, .bool false, .int .i64 m, .bool false, .int .i64 a] 47)).drewN nq)
  simp only [List.set_cons_zero] at B2
  generalize hw2 : ((w1.setCell ⟨w.heap.size, 0, none⟩ (.int .i64 g)).alloc (.cells #[.int .i64 g, .bool false, .int .i64 m, .bool false, .int .i64 a] 47)).drewN nq = w2 at *
  clear hw2 B0 HC1 c0 c1 f0
  go_wp2_with fail
  go_loopw [3, 4, 6, 7, 8, 9] (fun v3 v4 v6 v7 v8 v9 w' => v6 = .int .i64 a ∧ v7 = .int .i64 m ∧ v8 = .bool false ∧ w' = w2) (fun v3 v4 v6 v7 v8 v9 _ => 0)
  case atStart => exact ⟨rfl, rfl, rfl, rfl⟩
  case round =>
    obtain ⟨rfl, rfl, rfl, hw⟩ := hrel
    subst hw
    have c0 := B2.out.cell 0
    have c1 := B2.out.cell 1
    have f1 := B2.out.frozen 1
    simp only [List.getElem?_cons_zero, List.getElem?_cons_succ] at c0 c1
    have HX2 := As.mk (HX.out.keep C2.out)
    have hS : As (w.heap.size + 1 ≤ wr.heap.size) := ⟨B2.out.lt⟩
    go_wp2_with fail
    go_region_law (first
      | (refine step_append_ow (N := 56) rfl rfl _ _ 23 rfl 5 .u8 1 Tryd.underlying23 info8 (by decide) (.slice none 0 0) (w.heap.size + 1) [] ((xs.drop a).take m) A2 m (c - a) rfl rfl HL.out (ow_of (own_nil _ _ _ _)) (HA2.out _ HX2.out) hS.out ?hl1 ?_
         case hl1 => (have := HL.out; have := hT.out; simp only [List.length_nil]; omega)
         intro v56 w56 ho56 hc56
         have hN : Chg NoB _ w56 := hc56.mono (fun i _ e => by have h := e.2; cases h)
         have HB56 := As.mk (B2.out.drew.chg (S := NoB) hN (fun e => e))
         have HC56 : As (Chg NoB w w56) := ⟨C2.out.drew.trans hN (fun _ _ e => e)⟩
         rw [List.nil_append] at ho56
         obtain ⟨A56, c56, hv, _, _⟩ := ow_form ho56
         rw [← HL.out] at hv
         subst hv
         have HO56 := As.mk ho56
         have f560 := HB56.out.frozen 0
         have f56 := HB56.out.frozen 1
         have c560 := HB56.out.cell 0
         have c561 := HB56.out.cell 1
         simp only [List.getElem?_cons_zero, List.getElem?_cons_succ] at c560 c561
         clear ho56 hc56 hN))
    all_goals
      go_wp2_with fail
      refine bodyPost_ret (v := .tuple #[.agg #[.int .i64 g, .slice A56 m c56], .int .i64 t, .int .i64 0]) ?_ rfl ⟨_, rfl, ?_, ?_⟩
      · rw [results_cell_tmp2 rfl]
        go_simp
      · refine ow_lower (ow_chg (S := fun b => b = w.heap.size) HO56.out ?_ (fun b _ hb e => by omega)) (Nat.le_succ _)
        repeat (first | exact Chg.refl _ _ | (refine Chg.setCell ?_ _ (fun _ => rfl)))
      · repeat (first | exact HC56.out | (with_reducible apply Chg.alloc) | (refine Chg.setCell ?_ _ (fun h => absurd h (Nat.lt_irrefl _))))
end Go.Proofs.YtalbaapbiopamaaDoor
