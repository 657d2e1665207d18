/- The contracts of encoding.NewOID (which panics at other lengths than 1 to 254) and of impl.NewOid (which recovers). -/
import Derived.Test.YtllcfihbepmphaaDoorOidF
import Derived.Tactics2
import Derived.Defers
import Derived.Recover
import Derived.WalkLawsBesides
set_option linter.unusedVariables false
set_option linter.unusedSimpArgs false
namespace Go.Proofs.YtllcfihbepmphaaDoor
open Go.RowKit V
set_option maxHeartbeats 1000000 in
theorem newOID_ok (A : Option Addr) (n c : Nat) (w : World) (h1 : 1 ≤ n) (h2 : n ≤ 254) :
    Calls Tryd.prog 47 #[.slice A n c] w fun e w' => e = .returned (.pointer (some ⟨w.heap.size, 0, none⟩)) ∧ w' = w.alloc (.cells #[.slice A n c] 127) := by
  have hz : ((n : Int) == 0) = false := by simp; omega
  have hz2 : ((n : Int) == 255) = false := by simp; omega
  go_enter Tryd.func47, Tryd.ntmps47
  go_wp2_with fail
  go_ret
  exact ⟨rfl, rfl⟩
set_option maxHeartbeats 1000000 in
theorem newOID_panic (A : Option Addr) (n c : Nat) (w : World) (h : n = 0 ∨ 254 < n) :
    Calls Tryd.prog 47 #[.slice A n c] w fun e w' => (∃ v, e = .panicked [{ v := .iface 9 v, recovered := false }]) ∧ w' = w := by
  by_cases h0 : n = 0
  · subst h0
    clear h
    go_enter Tryd.func47, Tryd.ntmps47
    go_wp2_with fail
    exact ⟨rfl, ⟨_, rfl⟩, rfl⟩
  · by_cases h5 : n = 255
    · subst h5
      clear h
      go_enter Tryd.func47, Tryd.ntmps47
      go_wp2_with fail
      exact ⟨rfl, ⟨_, rfl⟩, rfl⟩
    · have hz : ((n : Int) == 0) = false := by simp; omega
      have hz2 : ((n : Int) == 255) = false := by simp; omega
      have h3 : 254 < n := by omega
      clear h h0 h5
      go_enter Tryd.func47, Tryd.ntmps47
      go_wp2_with fail
      exact ⟨rfl, ⟨_, rfl⟩, rfl⟩
/-- The deferred closure, where the frame returns: nothing. -/
theorem catch_idle (p q : Addr) (w : World) :
    CallsD Tryd.prog 46 #[.pointer (some p), .pointer (some q)] .returning w fun e u' w' => e = .returned (.tuple #[]) ∧ u' = .returning ∧ w' = w := by
  refine callsD_of_wpS Tryd.func46 rfl fun c₀ cs hu => ?_
  apply wpS_seq
  apply wpS_region
  simp [wpOpsS, go_sem, recoverD, hu, Tryd.ntmps46, Exit.thenS]
  refine wpS_cond (t := false) (by simp [Act.eval, Array.replicate]) ?_
  simp only [Bool.false_eq_true, if_false]
  refine wpS_of_wp (wp_skip ?_)
  cases c₀
  simp_all [bodyPostS, results, Tryd.results46]
/-- .. where the frame panics: the panic is recovered, the results are laid to zero. -/
theorem catch_panicking (g h : Nat) (u : TypeId) (pv : Value) (older : List PanicEntry) (w : World) (hb : Blk w g 54 [.slice none 0 0, .int .i64 0, .slice none 0 0, .int .i64 0]) (hc : Blk w h 4 [.bool false]) (hne : g ≠ h) :
    CallsD Tryd.prog 46 #[.pointer (some ⟨g, 0, none⟩), .pointer (some ⟨h, 0, none⟩)] (.panicking ({ v := .iface u pv, recovered := false } :: older)) w fun e u' w' =>
      e = .returned (.tuple #[]) ∧ u' = .panicking ({ v := .iface u pv, recovered := true } :: older) ∧ Blk w' g 54 [.slice none 0 0, .int .i64 0, .slice none 0 0, .int .i64 0] ∧ Blk w' h 4 [.bool false] ∧ Chg (fun b => b = g ∨ b = h) w w' := by
  have x0 := hb.cell 0
  have x1 := hb.cell 1
  have x2 := hb.cell 2
  have x3 := hb.cell 3
  have y0 := hb.frozen 0
  have y1 := hb.frozen 1
  have y2 := hb.frozen 2
  have y3 := hb.frozen 3
  have z0 := hc.cell 0
  have z1 := hc.frozen 0
  have zc : ∀ v, (w.setCell ⟨g, 0, none⟩ v).cell? ⟨h, 0, none⟩ = some (.bool false) := fun v => by
    have := (hc.far (p := ⟨g, 0, none⟩) (fun e => hne e.symm) v).cell 0
    simpa using this
  simp only [List.getElem?_cons_zero, List.getElem?_cons_succ] at x0 x1 x2 x3 z0
  refine callsD_of_wpS Tryd.func46 rfl fun c₀ cs hu => ?_
  apply wpS_seq
  apply wpS_region
  simp [wpOpsS, go_sem, recoverD, hu, Tryd.ntmps46, Exit.thenS]
  refine wpS_cond (t := true) (by simp [Act.eval, Array.replicate]) ?_
  simp only [if_true]
  apply wpS_region
  simp [wpOpsS, go_sem, x0, x1, x2, x3, y0, y1, y2, y3, z0, z1, zc, bodyPostS, results, Tryd.results46]
  refine ⟨?_, ?_, ?_⟩
  · exact (((((hb.set_ 0 _).set_ 1 _).set_ 2 _).set_ 3 _).far hne _)
  · exact ((((hc.far (fun e => hne e.symm) _).far (fun e => hne e.symm) _).far (fun e => hne e.symm) _).far (fun e => hne e.symm) _).set_ 0 _
  · exact (((((Chg.refl _ w).setCell (p := ⟨g, 0, none⟩) _ (fun _ => Or.inl rfl)).setCell (p := ⟨g, 1, none⟩) _ (fun _ => Or.inl rfl)).setCell (p := ⟨g, 2, none⟩) _ (fun _ => Or.inl rfl)).setCell (p := ⟨g, 3, none⟩) _ (fun _ => Or.inl rfl)).setCell (p := ⟨h, 0, none⟩) _ (fun _ => Or.inr rfl)
set_option maxRecDepth 100000 in
set_option maxHeartbeats 2000000 in
theorem newOid_bad (A : Option Addr) (n c : Nat) (xs : List Int) (w : World) (hn : n = xs.length) (hx : Rb w A xs) (hl : n ≤ 1048576) (h : n = 0 ∨ 254 < n) :
    Calls Tryd.prog 25 #[.slice A n c] w fun e w' => e = .returned (.tuple #[.agg #[.slice none 0 0, .int .i64 0, .slice none 0 0, .int .i64 0], .bool false]) ∧ Chg NoB w w' := by
  have HX := As.mk hx
  have HN := As.mk hn
  have HP := As.mk (fun A0 c0 w0 => newOID_panic A0 n c0 w0 h)
  have hmf : ∀ (fn : Fn) (first cap : Array Value) (w : World), (Instr.makeFunc fn first cap).run Tryd.prog w = .ok (.func fn first cap) w := fun _ _ _ _ => rfl
  have z1 : ∀ o o2, ((w.alloc o).alloc o2).heap.size = w.heap.size + 2 := fun o o2 => by
    rw [show ((w.alloc o).alloc o2).heap.size = (w.alloc o).heap.size + 1 from Array.size_push _, show (w.alloc o).heap.size = w.heap.size + 1 from Array.size_push _]
  clear hx hn h
  go_enter_defers Tryd.func25, Tryd.ntmps25
  go_wp2_with fail
  obtain ⟨w0, hw0⟩ : ∃ w0, w0 = (w.alloc (.cells #[.slice none 0 0, .int .i64 0, .slice none 0 0, .int .i64 0] 54)).alloc (.cells #[.bool false] 4) := ⟨_, rfl⟩
  have C0 : As (Chg NoB w w0) := ⟨by rw [hw0]; exact ((Chg.refl NoB w).alloc _).alloc _⟩
  have BG : As (Blk w0 w.heap.size 54 [.slice none 0 0, .int .i64 0, .slice none 0 0, .int .i64 0]) := ⟨by rw [hw0]; exact (Blk.new w _ [.slice none 0 0, .int .i64 0, .slice none 0 0, .int .i64 0]).alloc _⟩
  have BH : As (Blk w0 (w.heap.size + 1) 4 [.bool false]) := ⟨by
    have h := Blk.new (w.alloc (.cells #[.slice none 0 0, .int .i64 0, .slice none 0 0, .int .i64 0] 54)) 4 [.bool false]
    rw [show (w.alloc (.cells #[.slice none 0 0, .int .i64 0, .slice none 0 0, .int .i64 0] 54)).heap.size = w.heap.size + 1 from Array.size_push _] at h
    rw [hw0]
    exact h⟩
  rw [← hw0]
  clear hw0 z1
  refine (own_any A n c xs _ HN.out (HX.out.keep C0.out) (by have := HN.out; omega)).mono ?_
  rintro e w1 ⟨v1, rfl, ho1, hc1⟩
  obtain ⟨A1, c1, hv, hnc1, hr1, _⟩ := own_form ho1
  rw [← HN.out] at hv hnc1
  subst hv
  have C1 := As.mk (C0.out.trans hc1 (fun _ _ e => e))
  have BG1 := As.mk (BG.out.chg hc1 (fun e => e))
  have BH1 := As.mk (BH.out.chg hc1 (fun e => e))
  clear ho1 hc1 hr1
  go_wp2_with fail
  refine (HP.out A1 c1 _).mono ?_
  rintro e w2 ⟨⟨v, rfl⟩, rfl⟩
  go_wp2_with fail
  refine leaves_cons (f := 46) (args := #[.pointer (some ⟨w.heap.size, 0, none⟩), .pointer (some ⟨w.heap.size + 1, 0, none⟩)]) (by simp) (by simp [go_sem]) ?_
  refine (catch_panicking w.heap.size (w.heap.size + 1) 9 v [] _ BG1.out BH1.out (by omega)).mono ?_
  rintro e u' w3 ⟨rfl, rfl, hbg, hbh, hc3⟩
  have x0 := hbg.cell 0
  have x1 := hbg.cell 1
  have x2 := hbg.cell 2
  have x3 := hbg.cell 3
  have z0 := hbh.cell 0
  simp only [List.getElem?_cons_zero, List.getElem?_cons_succ] at x0 x1 x2 x3 z0
  have C3 : As (Chg NoB w w3) := ⟨C1.out.trans hc3 (fun i hi e => by rcases e with e | e <;> omega)⟩
  clear hbg hbh hc3
  simp [Leaves, settle, results, Tryd.results25, go_sem, x0, x1, x2, x3, z0]
  exact C3.out
set_option maxRecDepth 100000 in
set_option maxHeartbeats 2000000 in
theorem newOid_good (A : Option Addr) (n c t : Nat) (xs : List Int) (w : World) (hn : n = xs.length) (hx : Rb w A xs) (h1 : 1 ≤ n) (h2 : n ≤ 254) (ht : t = 1 + n) :
    Calls Tryd.prog 25 #[.slice A n c] w fun e w' => (∃ (A1 : Option Addr) (c1 : Nat) (A2 : Option Addr) (c2 : Nat), e = .returned (.tuple #[.agg #[.slice A1 n c1, .int .i64 ((n : Int) * 8), .slice A2 t c2, .int .i64 t], .bool true]) ∧ Rb w' A1 xs ∧ Rb w' A2 ([(n : Int)] ++ xs) ∧ t ≤ c2) ∧ Chg NoB w w' := by
  have HX := As.mk hx
  have HN := As.mk hn
  have HFI := As.mk (fun (g : Nat) (A0 : Option Addr) (c0 : Nat) (w0 : World) (h1 : Blk w0 g 127 [.slice A0 n c0]) (h3 : Rb w0 A0 xs) => fieldOid_any g A0 n c0 xs w0 h1 hn h3 h2)
  rw [show 1 + (n : Int) = (t : Int) from by omega] at HFI
  have hmf : ∀ (fn : Fn) (first cap : Array Value) (w : World), (Instr.makeFunc fn first cap).run Tryd.prog w = .ok (.func fn first cap) w := fun _ _ _ _ => rfl
  obtain ⟨L, hL⟩ : ∃ L, L = [(n : Int)] ++ xs := ⟨_, rfl⟩
  have hLl : L.length = t := by rw [hL]; simp; omega
  rw [← hL] at HFI ⊢
  have HLL := As.mk (And.intro hLl hn.symm)
  clear hx hn ht hL hLl
  go_enter_defers Tryd.func25, Tryd.ntmps25
  go_wp2_with fail
  obtain ⟨w0, hw0⟩ : ∃ w0, w0 = (w.alloc (.cells #[.slice none 0 0, .int .i64 0, .slice none 0 0, .int .i64 0] 54)).alloc (.cells #[.bool false] 4) := ⟨_, rfl⟩
  have C0 : As (Chg NoB w w0) := ⟨by rw [hw0]; exact ((Chg.refl NoB w).alloc _).alloc _⟩
  have BG : As (Blk w0 w.heap.size 54 [.slice none 0 0, .int .i64 0, .slice none 0 0, .int .i64 0]) := ⟨by rw [hw0]; exact (Blk.new w _ [.slice none 0 0, .int .i64 0, .slice none 0 0, .int .i64 0]).alloc _⟩
  have BH : As (Blk w0 (w.heap.size + 1) 4 [.bool false]) := ⟨by
    have h := Blk.new (w.alloc (.cells #[.slice none 0 0, .int .i64 0, .slice none 0 0, .int .i64 0] 54)) 4 [.bool false]
    rw [show (w.alloc (.cells #[.slice none 0 0, .int .i64 0, .slice none 0 0, .int .i64 0] 54)).heap.size = w.heap.size + 1 from Array.size_push _] at h
    rw [hw0]
    exact h⟩
  rw [← hw0]
  clear hw0
  refine (own_any A n c xs _ HN.out (HX.out.keep C0.out) (by have := HN.out; omega)).mono ?_
  rintro e w1 ⟨v1, rfl, ho1, hc1⟩
  obtain ⟨A1, c1, hv, hnc1, hr1, _⟩ := own_form ho1
  rw [← HN.out] at hv hnc1
  subst hv
  have C1 := As.mk (C0.out.trans hc1 (fun _ _ e => e))
  have BG1 := As.mk (BG.out.chg hc1 (fun e => e))
  have BH1 := As.mk (BH.out.chg hc1 (fun e => e))
  have HR1 := As.mk hr1
  clear ho1 hc1 hr1
  go_wp2_with fail
  refine (newOID_ok A1 n c1 _ h1 h2).mono ?_
  rintro e w2 ⟨rfl, rfl⟩
  go_wp2_with fail
  refine (HFI.out w1.heap.size A1 c1 _ (Blk.new w1 _ _) (HR1.out.alloc _)).mono ?_
  rintro e w3 ⟨A3, c3, A4, c4, rfl, hr3, hr4, hc3, ha3, ha4, hcap⟩
  rw [HLL.out.1] at hcap
  have HCAP := As.mk hcap
  rw [HLL.out.1, HLL.out.2]
  have D3 : Chg NoB w1 w3 := ((Chg.refl NoB w1).alloc _).trans hc3 (fun _ _ e => e)
  have f3 := BG1.out.chg D3 (fun e => e)
  have k3 := BH1.out.chg D3 (fun e => e)
  have BG3 := As.mk f3
  have BH3 := As.mk k3
  have x0 := f3.cell 0
  have x1 := f3.cell 1
  have x2 := f3.cell 2
  have x3 := f3.cell 3
  have y0 := f3.frozen 0
  have y1 := f3.frozen 1
  have y2 := f3.frozen 2
  have y3 := f3.frozen 3
  have z0 := k3.cell 0
  have z1 := k3.frozen 0
  simp only [List.getElem?_cons_zero, List.getElem?_cons_succ] at x0 x1 x2 x3 z0
  have hgh : ¬ w.heap.size = w.heap.size + 1 := by omega
  have zc : ∀ v, (w3.setCell ⟨w.heap.size, 0, none⟩ v).cell? ⟨w.heap.size + 1, 0, none⟩ = some (.bool false) := fun v => by
    have := (k3.far (p := ⟨w.heap.size, 0, none⟩) (fun e => hgh e.symm) v).cell 0
    simpa using this
  have C3 := As.mk (C1.out.trans D3 (fun _ _ e => e))
  have HR3 := As.mk hr3
  have HR4 := As.mk hr4
  have HA3 : As (∀ ad, A3 = some ad → w.heap.size + 1 < ad.block) := ⟨fun ad e => by have h := ha3 ad e; have h2 := BH1.out.lt; rw [show (w1.alloc (.cells #[.slice A1 n c1] 127)).heap.size = w1.heap.size + 1 from Array.size_push _] at h; omega⟩
  have HA4 : As (∀ ad, A4 = some ad → w.heap.size + 1 < ad.block) := ⟨fun ad e => by have h := ha4 ad e; have h2 := BH1.out.lt; rw [show (w1.alloc (.cells #[.slice A1 n c1] 127)).heap.size = w1.heap.size + 1 from Array.size_push _] at h; omega⟩
  clear hr3 hr4 hc3 f3 k3 ha3 ha4 D3 hcap
  go_wp2_with fail
  refine leaves_cons (f := 46) (args := #[.pointer (some ⟨w.heap.size, 0, none⟩), .pointer (some ⟨w.heap.size + 1, 0, none⟩)]) (by simp) (by simp [go_sem]) ?_
  obtain ⟨w4, hw4⟩ : ∃ w4, w4 = ((((w3.setCell ⟨w.heap.size, 0, none⟩ (.slice A3 n c3)).setCell ⟨w.heap.size, 1, none⟩ (.int .i64 ((n : Int) * 8))).setCell ⟨w.heap.size, 2, none⟩ (.slice A4 t c4)).setCell ⟨w.heap.size, 3, none⟩ (.int .i64 (t : Int))).setCell ⟨w.heap.size + 1, 0, none⟩ (.bool true) := ⟨_, rfl⟩
  have D4 : Chg (fun b => b = w.heap.size ∨ b = w.heap.size + 1) w3 w4 := by
    rw [hw4]
    exact (((((Chg.refl _ w3).setCell (p := ⟨w.heap.size, 0, none⟩) _ (fun _ => Or.inl rfl)).setCell (p := ⟨w.heap.size, 1, none⟩) _ (fun _ => Or.inl rfl)).setCell (p := ⟨w.heap.size, 2, none⟩) _ (fun _ => Or.inl rfl)).setCell (p := ⟨w.heap.size, 3, none⟩) _ (fun _ => Or.inl rfl)).setCell (p := ⟨w.heap.size + 1, 0, none⟩) _ (fun _ => Or.inr rfl)
  have bg4 : Blk w4 w.heap.size 54 [.slice A3 n c3, .int .i64 ((n : Int) * 8), .slice A4 t c4, .int .i64 (t : Int)] := by rw [hw4]; exact (((((BG3.out.set_ 0 _).set_ 1 _).set_ 2 _).set_ 3 _).far hgh _)
  have bh4 : Blk w4 (w.heap.size + 1) 4 [.bool true] := by rw [hw4]; exact ((((BH3.out.far (fun e => hgh e.symm) _).far (fun e => hgh e.symm) _).far (fun e => hgh e.symm) _).far (fun e => hgh e.symm) _).set_ 0 _
  refine (catch_idle ⟨w.heap.size, 0, none⟩ ⟨w.heap.size + 1, 0, none⟩ _).mono ?_
  rintro e u' w5 ⟨rfl, rfl, rfl⟩
  rw [← hw4]
  have x0 := bg4.cell 0
  have x1 := bg4.cell 1
  have x2 := bg4.cell 2
  have x3 := bg4.cell 3
  have z0 := bh4.cell 0
  simp only [List.getElem?_cons_zero, List.getElem?_cons_succ] at x0 x1 x2 x3 z0
  simp [Leaves, settle, results, Tryd.results25, go_sem, x0, x1, x2, x3, z0]
  exact ⟨⟨A3, c3, A4, c4, ⟨⟨rfl, rfl⟩, rfl, rfl⟩, HR3.out.chg D4 (fun ad e _ h => by have := HA3.out ad e; rcases h with h | h <;> omega), HR4.out.chg D4 (fun ad e _ h => by have := HA4.out ad e; rcases h with h | h <;> omega), HCAP.out⟩, C3.out.trans D4 (fun i hi e => by rcases e with e | e <;> omega)⟩
end Go.Proofs.YtllcfihbepmphaaDoor
