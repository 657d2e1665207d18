/- The contract of impl.ReadMpi. -/
import Derived.Test.YtllcfihbepmphaaDoorField
import Derived.Test.YtllcfihbepmphaaDoorEnd2
set_option linter.unusedVariables false
set_option linter.unusedSimpArgs false
namespace Go.Proofs.YtllcfihbepmphaaDoor
open Go.RowKit V
theorem results_cell_tmp2 {fn : Func} {p u v : Tmp} {ty : TypeId} (h : fn.results = #[.cell p ty, .tmp u, .tmp v]) (tmps : Array Value) (P : Program) (w : World) :
    (results fn tmps).run P w =
      ((asAddr (tmps.getD p undef)).run P w).andThen fun a w₁ => ((loadVar ty a).run P w₁).andThen fun x w₂ => .ok (.tuple #[x, tmps.getD u undef, tmps.getD v undef]) w₂ := by
  simp only [results, h]
  simp [Sem.run_bind, Result.andThen]
def Short2 (xs : List Int) : Prop := xs.length < 2 ∨ ∃ b : Nat, (b : Int) = rd xs 0 * 256 + rd xs 1 ∧ xs.length < 2 + nBytes b
/-- What ReadMpi answers. -/
def MpiOf (w : World) (xs : List Int) (e : Ending) (w' : World) : Prop :=
  Chg NoB w w' ∧
  ((∃ (b : Nat) (A1 : Option Addr) (c1 : Nat) (A2 : Option Addr) (c2 : Nat), (b : Int) = rd xs 0 * 256 + rd xs 1 ∧ 2 + nBytes b ≤ xs.length ∧
      e = .returned (.tuple #[.agg #[.slice A1 (nBytes b) c1, .int .i64 b, .slice A2 (2 + nBytes b) c2, .int .i64 (2 + nBytes b : Nat)], .int .i64 (2 + nBytes b : Nat), .int .i64 0]) ∧ Rb w' A1 ((xs.drop 2).take (nBytes b)) ∧ Rb w' A2 (xs.take (2 + nBytes b))) ∨
   (Short2 xs ∧ ∃ k : Int, e = .returned (.tuple #[.agg #[.slice none 0 0, .int .i64 0, .slice none 0 0, .int .i64 0], .int .i64 k, .int .i64 2])))
theorem head2 {xs : List Int} (hb : Byt xs) {b : Nat} (hv : (b : Int) = rd xs 0 * 256 + rd xs 1) (h2 : 2 ≤ xs.length) (k : Nat) : [(b : Int) / 256, (b : Int) % 256] ++ (xs.drop 2).take k = xs.take (2 + k) := by
  have h0 := hb.rd 0
  have h1 := hb.rd 1
  have e0 : (b : Int) / 256 = rd xs 0 := by omega
  have e1 : (b : Int) % 256 = rd xs 1 := by omega
  rw [e0, e1]
  match xs, h2 with
  | x :: y :: l, _ => simp [rd, Nat.add_comm 2 k]
set_option maxRecDepth 100000 in
set_option maxHeartbeats 2000000 in
theorem readMpi_any (A : Option Addr) (n c : Nat) (xs : List Int) (sp : Int) (w : World) (a0 a1 : Addr) (hS : Sent w a0 a1) (hn : n = xs.length) (hnc : n ≤ c) (hx : Rb w A xs) (hb : Byt xs) (hl : n ≤ 2097152) :
    Calls Tryd.prog 23 #[.slice A n c, .int .i64 sp] w (MpiOf w xs) := by
  have HS := As.mk hS
  have HX := As.mk hx
  have HBY := As.mk hb
  have HN := As.mk hn
  have hlt := hS.lts
  have HB : As (0 < w.heap.size + 1 ∧ 1 < w.heap.size + 1 ∧ a0.block < w.heap.size + 1 ∧ a1.block < w.heap.size + 1) := ⟨by omega⟩
  obtain ⟨F0, hF0⟩ : ∃ F0 : Obj, F0 = .cells #[.slice none 0 0, .int .i64 0, .slice none 0 0, .int .i64 0] 54 := ⟨_, rfl⟩
  obtain ⟨M0, hM0⟩ : ∃ M0 : Obj, M0 = .cells #[.slice none 0 0, .int .u16 0] 120 := ⟨_, rfl⟩
  obtain ⟨S0, hS0⟩ : ∃ S0 : Obj, S0 = .cells #[.slice A n c, .int .i64 sp] 111 := ⟨_, rfl⟩
  have z1 : (w.alloc F0).heap.size = w.heap.size + 1 := Array.size_push _
  have z2 : ((w.alloc F0).alloc M0).heap.size = w.heap.size + 2 := by rw [show ((w.alloc F0).alloc M0).heap.size = (w.alloc F0).heap.size + 1 from Array.size_push _, z1]
  have hc0 : Chg NoB w (((w.alloc F0).alloc M0).alloc S0) := (((Chg.refl NoB w).alloc _).alloc _).alloc _
  have HMR : As (Calls Tryd.prog 44 #[.pointer (some ⟨w.heap.size + 1, 0, none⟩), .iface 109 (.pointer (some ⟨w.heap.size + 2, 0, none⟩))] (((w.alloc F0).alloc M0).alloc S0) (MpiRead (((w.alloc F0).alloc M0).alloc S0) (w.heap.size + 1) (w.heap.size + 1) xs a1)) := ⟨by
    refine mpiRead_any (w.heap.size + 1) (w.heap.size + 1) (w.heap.size + 2) xs sp _ a0 a1 (hS.keep hc0) HB.out ?_ ?_ (by omega) (by omega) (Nat.le_refl _) (by omega) hb
    · refine ⟨A, c, ?_, by omega, hx.keep hc0, fun ad e hp => ?_⟩
      · have h := Blk.new ((w.alloc F0).alloc M0) 111 [.slice A n c, .int .i64 sp]
        rw [z2] at h
        rw [hS0, ← hn]
        exact h
      · obtain ⟨ad2, e2, h2, _⟩ := hx.2 hp
        rw [e] at e2
        injection e2 with e2
        subst e2
        omega
    · have h := Blk.new (w.alloc F0) 120 [.slice none 0 0, .int .u16 0]
      rw [z1] at h
      rw [hM0]
      exact h.alloc _⟩
  have BF : As (Blk (((w.alloc F0).alloc M0).alloc S0) w.heap.size 54 [.slice none 0 0, .int .i64 0, .slice none 0 0, .int .i64 0]) := ⟨by
    have h := Blk.new w 54 [.slice none 0 0, .int .i64 0, .slice none 0 0, .int .i64 0]
    rw [hF0]
    exact (h.alloc _).alloc _⟩
  have HC0 := As.mk hc0
  rw [hF0, hM0, hS0] at HMR BF HC0
  clear hS hx hb hn hlt z1 z2 hc0 hF0 hM0 hS0 F0 M0 S0
  go_enter Tryd.func23, Tryd.ntmps23
  go_wp2_with fail
  refine HMR.out.mono ?_
  rintro e w1 ⟨hc1, hm⟩
  have HC1 : As (Chg NoB w w1) := ⟨HC0.out.trans hc1 (fun i hi e => by omega)⟩
  have bf1 := BF.out.chg hc1 (by omega)
  have BF1 := As.mk bf1
  have x0 := bf1.cell 0
  have x1 := bf1.cell 1
  have x2 := bf1.cell 2
  have x3 := bf1.cell 3
  have y0 := bf1.frozen 0
  have y1 := bf1.frozen 1
  have y2 := bf1.frozen 2
  have y3 := bf1.frozen 3
  simp only [List.getElem?_cons_zero, List.getElem?_cons_succ] at x0 x1 x2 x3
  clear hc1 bf1
  rcases hm with ⟨b, v, hv, hle, he, hbk, how⟩ | ⟨hsh, k, rfl⟩
  · obtain ⟨A1, c1, hvs, _, hr1, _⟩ := own_form how
    obtain ⟨ys, hys⟩ : ∃ ys, ys = (xs.drop 2).take (nBytes b) := ⟨_, rfl⟩
    have hylen : ys.length = nBytes b := by rw [hys, List.length_take, List.length_drop]; omega
    rw [← hys] at hvs hr1
    rw [hylen] at hvs
    have h0 := HBY.out.rd 0
    have h1 := HBY.out.rd 1
    have hb16 : b ≤ 65535 := by omega
    obtain ⟨t, ht⟩ : ∃ t, t = 2 + nBytes b := ⟨_, rfl⟩
    have hnb2 : nBytes b ≤ 8192 := by unfold nBytes; omega
    rw [← ht] at he
    have htb : t ≤ 8194 := by omega
    subst he
    subst hvs
    have HFI : As (Calls Tryd.prog 45 #[.iface 117 (.pointer (some ⟨w.heap.size + 1, 0, none⟩))] w1 (FieldIs w1 ys (xs.take t) b t)) := ⟨by
      have h := fieldMpi_any (w.heap.size + 1) A1 (nBytes b) c1 b ys w1 hbk hb16 hylen.symm hr1 hnb2
      rw [hys, head2 HBY.out hv (by omega) (nBytes b), ← hys, ← ht, show 2 + (nBytes b : Int) = (t : Int) from by omega] at h
      exact h⟩
    have HTL : As ((xs.take t).length = t ∧ ys.length = nBytes b) := ⟨by rw [List.length_take]; omega, hylen⟩
    have HV := As.mk hv
    have HLE := As.mk hle
    have HT := As.mk ht
    have HYS := As.mk hys
    clear hv hle hbk how hr1 hys hylen h0 h1 ht
    go_wp2_with fail
    refine HFI.out.mono ?_
    rintro e w2 ⟨A3, c3, A4, c4, rfl, hr3, hr4, hc2, ha3, ha4⟩
    rw [HTL.out.1, HTL.out.2]
    have bf2 := BF1.out.chg hc2 (fun e => e)
    have BF2 := As.mk bf2
    have x0 := bf2.cell 0
    have x1 := bf2.cell 1
    have x2 := bf2.cell 2
    have x3 := bf2.cell 3
    have y0 := bf2.frozen 0
    have y1 := bf2.frozen 1
    have y2 := bf2.frozen 2
    have y3 := bf2.frozen 3
    simp only [List.getElem?_cons_zero, List.getElem?_cons_succ] at x0 x1 x2 x3
    have HR3 := As.mk hr3
    have HR4 := As.mk hr4
    have HA3 := As.mk ha3
    have HA4 := As.mk ha4
    have hwl : w.heap.size < w1.heap.size := BF1.out.lt
    have HC2 := As.mk (HC1.out.trans hc2 (fun _ _ e => e))
    obtain ⟨nb, hnbe⟩ : ∃ nb, nb = nBytes b := ⟨_, rfl⟩
    rw [← hnbe]
    have HNBE := As.mk hnbe
    clear hr3 hr4 hc2 bf2 hnbe ha3 ha4
    go_wp2_with fail
    have hfin : Chg (fun b => b = w.heap.size) w2 _ := ((((Chg.refl (fun b => b = w.heap.size) w2).setCell (p := ⟨w.heap.size, 0, none⟩) (.slice A3 nb c3) (fun _ => rfl)).setCell (p := ⟨w.heap.size, 1, none⟩) (.int .i64 (b : Int)) (fun _ => rfl)).setCell (p := ⟨w.heap.size, 2, none⟩) (.slice A4 t c4) (fun _ => rfl)).setCell (p := ⟨w.heap.size, 3, none⟩) (.int .i64 (t : Int)) (fun _ => rfl)
    refine bodyPost_ret (v := .tuple #[.agg #[.slice A3 nb c3, .int .i64 (b : Int), .slice A4 t c4, .int .i64 (t : Int)], .int .i64 (t : Int), .int .i64 0]) ?_ rfl ⟨HC2.out.trans hfin (fun i hi e => by omega), Or.inl ⟨b, A3, c3, A4, c4, HV.out, HLE.out, ?_, ?_, ?_⟩⟩
    · rw [results_cell_tmp2 rfl]
      go_simp
    · rw [← HNBE.out, show 2 + nb = t from by have := HT.out; have := HNBE.out; omega]
    · rw [← HYS.out]; exact HR3.out.chg hfin (fun ad e _ h => by have := HA3.out ad e; omega)
    · rw [← HT.out]; exact HR4.out.chg hfin (fun ad e _ h => by have := HA4.out ad e; omega)
  · have HSH := As.mk (show Short2 xs from hsh)
    clear hsh
    go_wp2_with fail
    refine (end_cut _ a0 a1 (HS.out.keep HC1.out)).mono ?_
    rintro e w2 ⟨rfl, rfl⟩
    go_wp2_with fail
    refine bodyPost_ret (v := .tuple #[.agg #[.slice none 0 0, .int .i64 0, .slice none 0 0, .int .i64 0], .int .i64 k, .int .i64 2]) ?_ rfl ⟨?_, Or.inr ⟨HSH.out, k, rfl⟩⟩
    · rw [results_cell_tmp2 rfl]
      go_simp
    · repeat (first | exact HC1.out | (refine Chg.setCell ?_ _ (fun h => absurd h (Nat.lt_irrefl _))))
end Go.Proofs.YtllcfihbepmphaaDoor
