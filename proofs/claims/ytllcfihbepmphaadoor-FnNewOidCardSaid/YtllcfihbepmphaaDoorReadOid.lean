/- The contract of impl.ReadOid, where there is enough to read. -/
import Derived.Test.YtllcfihbepmphaaDoorOidF
import Derived.Test.YtllcfihbepmphaaDoorOid
import Derived.Test.YtllcfihbepmphaaDoorReadMpi
set_option linter.unusedVariables false
set_option linter.unusedSimpArgs false
namespace Go.Proofs.YtllcfihbepmphaaDoor
open Go.RowKit V
theorem head1 {xs : List Int} {nb : Nat} (hv : rd xs 0 = (nb : Int)) (h1 : 1 ≤ xs.length) (k : Nat) : [(nb : Int)] ++ (xs.drop 1).take k = xs.take (1 + k) := by
  match xs, h1 with
  | x :: l, _ =>
    simp [rd] at hv
    simp [hv, Nat.add_comm 1 k]
set_option maxRecDepth 100000 in
set_option maxHeartbeats 2000000 in
theorem readOid_ok (A : Option Addr) (n c nb : Nat) (xs : List Int) (sp : Int) (w : World) (a0 a1 : Addr) (hS : Sent w a0 a1) (hn : n = xs.length) (hnc : n ≤ c) (hx : Rb w A xs) (hx0 : rd xs 0 = (nb : Int)) (hn1 : 1 ≤ nb) (hn2 : nb ≤ 254) (hlen : n = 1 + nb) :
    Calls Tryd.prog 26 #[.slice A n c, .int .i64 sp] w fun e w' => Chg NoB w w' ∧ ∃ (A1 : Option Addr) (c1 : Nat) (A2 : Option Addr) (c2 : Nat), e = .returned (.tuple #[.agg #[.slice A1 nb c1, .int .i64 ((nb : Int) * 8), .slice A2 n c2, .int .i64 n], .int .i64 n, .int .i64 0]) ∧ Rb w' A1 ((xs.drop 1).take nb) ∧ Rb w' A2 xs := by
  have HS := As.mk hS
  have HX := As.mk hx
  have HN := As.mk hn
  have HX0 := As.mk hx0
  have HLE := As.mk hlen
  have hlt := hS.lts
  have HB : As (0 < w.heap.size + 1 ∧ 1 < w.heap.size + 1 ∧ a0.block < w.heap.size + 1 ∧ a1.block < w.heap.size + 1) := ⟨by omega⟩
  obtain ⟨F0, hF0⟩ : ∃ F0 : Obj, F0 = .cells #[.slice none 0 0, .int .i64 0, .slice none 0 0, .int .i64 0] 54 := ⟨_, rfl⟩
  obtain ⟨M0, hM0⟩ : ∃ M0 : Obj, M0 = .cells #[.slice none 0 0] 127 := ⟨_, rfl⟩
  obtain ⟨S0, hS0⟩ : ∃ S0 : Obj, S0 = .cells #[.slice A n c, .int .i64 sp] 111 := ⟨_, rfl⟩
  have z1 : (w.alloc F0).heap.size = w.heap.size + 1 := Array.size_push _
  have z2 : ((w.alloc F0).alloc M0).heap.size = w.heap.size + 2 := by rw [show ((w.alloc F0).alloc M0).heap.size = (w.alloc F0).heap.size + 1 from Array.size_push _, z1]
  have hc0 : Chg NoB w (((w.alloc F0).alloc M0).alloc S0) := (((Chg.refl NoB w).alloc _).alloc _).alloc _
  have HMR : As (Calls Tryd.prog 48 #[.pointer (some ⟨w.heap.size + 1, 0, none⟩), .iface 109 (.pointer (some ⟨w.heap.size + 2, 0, none⟩))] (((w.alloc F0).alloc M0).alloc S0) fun e w' => Chg (fun b => w.heap.size + 1 ≤ b) (((w.alloc F0).alloc M0).alloc S0) w' ∧ ∃ v, e = .returned (.tuple #[.int .i64 n, .nilIface]) ∧ Blk w' (w.heap.size + 1) 127 [v] ∧ Own w' (w.heap.size + 1) 5 .u8 v ((xs.drop 1).take nb)) := ⟨by
    refine oidRead_ok (w.heap.size + 1) (w.heap.size + 1) (w.heap.size + 2) nb n xs sp _ a0 a1 (hS.keep hc0) HB.out ?_ ?_ (by omega) (by omega) (Nat.le_refl _) (by omega) hx0 hn1 hn2 hlen (by omega)
    · refine ⟨A, c, ?_, by omega, hx.keep hc0, fun ad e hp => ?_⟩
      · have h := Blk.new ((w.alloc F0).alloc M0) 111 [.slice A n c, .int .i64 sp]
        rw [z2] at h
        rw [hS0, ← hn]
        exact h
      · obtain ⟨ad2, e2, h2, _⟩ := hx.2 hp
        rw [e] at e2
        injection e2 with e2
        subst e2
        omega
    · have h := Blk.new (w.alloc F0) 127 [.slice none 0 0]
      rw [z1] at h
      rw [hM0]
      exact h.alloc _⟩
  have BF : As (Blk (((w.alloc F0).alloc M0).alloc S0) w.heap.size 54 [.slice none 0 0, .int .i64 0, .slice none 0 0, .int .i64 0]) := ⟨by
    have h := Blk.new w 54 [.slice none 0 0, .int .i64 0, .slice none 0 0, .int .i64 0]
    rw [hF0]
    exact (h.alloc _).alloc _⟩
  have HC0 := As.mk hc0
  rw [hF0, hM0, hS0] at HMR BF HC0
  clear hS hx hn hx0 hlen hlt z1 z2 hc0 hF0 hM0 hS0 F0 M0 S0
  go_enter Tryd.func26, Tryd.ntmps26
  go_wp2_with fail
  refine HMR.out.mono ?_
  rintro e w1 ⟨hc1, v, he, hbk, how⟩
  have HC1 : As (Chg NoB w w1) := ⟨HC0.out.trans hc1 (fun i hi e => by omega)⟩
  have bf1 := BF.out.chg hc1 (by omega)
  have BF1 := As.mk bf1
  have x0 := bf1.cell 0
  have x1 := bf1.cell 1
  have x2 := bf1.cell 2
  have x3 := bf1.cell 3
  have y0 := bf1.frozen 0
  have y1 := bf1.frozen 1
  have y2 := bf1.frozen 2
  have y3 := bf1.frozen 3
  simp only [List.getElem?_cons_zero, List.getElem?_cons_succ] at x0 x1 x2 x3
  clear hc1 bf1
  obtain ⟨A1, c1, hvs, _, hr1, _⟩ := own_form how
  obtain ⟨ys, hys⟩ : ∃ ys, ys = (xs.drop 1).take nb := ⟨_, rfl⟩
  have hylen : ys.length = nb := by rw [hys, List.length_take, List.length_drop]; have := HN.out; have := HLE.out; omega
  rw [← hys] at hvs hr1
  rw [hylen] at hvs
  subst he
  subst hvs
  have HFI : As (Calls Tryd.prog 45 #[.iface 124 (.pointer (some ⟨w.heap.size + 1, 0, none⟩))] w1 (FieldIsC w1 ys xs ((nb : Int) * 8) n)) := ⟨by
    have h := fieldOid_any (w.heap.size + 1) A1 nb c1 ys w1 hbk hylen.symm hr1 hn2
    rw [hys, head1 HX0.out (by have := HN.out; have := HLE.out; omega) nb, ← hys, show 1 + (nb : Int) = (n : Int) from by have := HLE.out; omega, ← HLE.out] at h
    rw [HN.out, List.take_length] at h
    rw [HN.out]
    exact h⟩
  have HTL : As (xs.length = n ∧ ys.length = nb) := ⟨HN.out.symm, hylen⟩
  have HYS := As.mk hys
  clear hbk how hr1 hys hylen
  go_wp2_with fail
  refine HFI.out.mono ?_
  rintro e w2 ⟨A3, c3, A4, c4, rfl, hr3, hr4, hc2, ha3, ha4, _⟩
  rw [HTL.out.1, HTL.out.2]
  have bf2 := BF1.out.chg hc2 (fun e => e)
  have BF2 := As.mk bf2
  have x0 := bf2.cell 0
  have x1 := bf2.cell 1
  have x2 := bf2.cell 2
  have x3 := bf2.cell 3
  have y0 := bf2.frozen 0
  have y1 := bf2.frozen 1
  have y2 := bf2.frozen 2
  have y3 := bf2.frozen 3
  simp only [List.getElem?_cons_zero, List.getElem?_cons_succ] at x0 x1 x2 x3
  have HR3 := As.mk hr3
  have HR4 := As.mk hr4
  have HA3 := As.mk ha3
  have HA4 := As.mk ha4
  have hwl : w.heap.size < w1.heap.size := BF1.out.lt
  have HC2 := As.mk (HC1.out.trans hc2 (fun _ _ e => e))
  clear hr3 hr4 hc2 bf2 ha3 ha4
  go_wp2_with fail
  have hfin : Chg (fun b => b = w.heap.size) w2 _ := ((((Chg.refl (fun b => b = w.heap.size) w2).setCell (p := ⟨w.heap.size, 0, none⟩) (.slice A3 nb c3) (fun _ => rfl)).setCell (p := ⟨w.heap.size, 1, none⟩) (.int .i64 ((nb : Int) * 8)) (fun _ => rfl)).setCell (p := ⟨w.heap.size, 2, none⟩) (.slice A4 n c4) (fun _ => rfl)).setCell (p := ⟨w.heap.size, 3, none⟩) (.int .i64 (n : Int)) (fun _ => rfl)
  refine bodyPost_ret (v := .tuple #[.agg #[.slice A3 nb c3, .int .i64 ((nb : Int) * 8), .slice A4 n c4, .int .i64 (n : Int)], .int .i64 (n : Int), .int .i64 0]) ?_ rfl ⟨HC2.out.trans hfin (fun i hi e => by omega), A3, c3, A4, c4, rfl, ?_, ?_⟩
  · rw [results_cell_tmp2 rfl]
    go_simp
  · rw [← HYS.out]; exact HR3.out.chg hfin (fun ad e _ h => by have := HA3.out ad e; omega)
  · exact HR4.out.chg hfin (fun ad e _ h => by have := HA4.out ad e; omega)
end Go.Proofs.YtllcfihbepmphaaDoor
