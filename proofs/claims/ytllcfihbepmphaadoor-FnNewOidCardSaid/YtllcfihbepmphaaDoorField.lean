/- The contract of impl.field over an encoding.MPI. -/
import Derived.Test.YtllcfihbepmphaaDoorMpiF
set_option linter.unusedVariables false
set_option linter.unusedSimpArgs false
namespace Go.Proofs.YtllcfihbepmphaaDoor
open Go.RowKit V
theorem results_cell_one {fn : Func} {p : Tmp} {ty : TypeId} (h : fn.results = #[.cell p ty]) (tmps : Array Value) (P : Program) (w : World) :
    (results fn tmps).run P w = ((asAddr (tmps.getD p undef)).run P w).andThen fun a w₁ => (loadVar ty a).run P w₁ := by
  simp only [results, h]
  simp [Sem.run_bind, Result.andThen]
theorem mBytes (a : Addr) (w : World) : (method 295 117 (.pointer (some a)) "Bytes").run Tryd.prog w = .ok (85, .pointer (some a)) w := by kernel_rfl
theorem mBits (a : Addr) (w : World) : (method 295 117 (.pointer (some a)) "BitLength").run Tryd.prog w = .ok (84, .pointer (some a)) w := by kernel_rfl
theorem mEnc (a : Addr) (w : World) : (method 295 117 (.pointer (some a)) "EncodedBytes").run Tryd.prog w = .ok (86, .pointer (some a)) w := by kernel_rfl
theorem mLen (a : Addr) (w : World) : (method 295 117 (.pointer (some a)) "EncodedLength").run Tryd.prog w = .ok (87, .pointer (some a)) w := by kernel_rfl
/-- A field as data: its bytes, its bits, how it is written, how long that is. -/
def FieldIs (w : World) (ys enc : List Int) (bits len : Int) (e : Ending) (w' : World) : Prop :=
  ∃ A1 c1 A2 c2, e = .returned (.agg #[.slice A1 ys.length c1, .int .i64 bits, .slice A2 enc.length c2, .int .i64 len]) ∧ Rb w' A1 ys ∧ Rb w' A2 enc ∧ Chg NoB w w' ∧ (∀ ad, A1 = some ad → w.heap.size < ad.block) ∧ (∀ ad, A2 = some ad → w.heap.size < ad.block)
set_option maxRecDepth 100000 in
set_option maxHeartbeats 2000000 in
theorem fieldMpi_any (g : Nat) (A : Option Addr) (n c : Nat) (B : Nat) (ys : List Int) (w : World) (hb : Blk w g 120 [.slice A n c, .int .u16 (B : Int)]) (hB : B ≤ 65535) (hn : n = ys.length) (hy : Rb w A ys) (hl : n ≤ 8192) :
    Calls Tryd.prog 45 #[.iface 117 (.pointer (some ⟨g, 0, none⟩))] w (FieldIs w ys ([(B : Int) / 256, (B : Int) % 256] ++ ys) B (2 + (n : Int))) := by
  have HBK := As.mk hb
  have HY := As.mk hy
  have HN := As.mk hn
  have m1 := mBytes
  have m2 := mBits
  have m3 := mEnc
  have m4 := mLen
  have hBi : (B : Int) ≤ 65535 := by omega
  obtain ⟨hi, hhi⟩ : ∃ hi, hi = (B : Int) / 256 := ⟨_, rfl⟩
  obtain ⟨lo, hlo⟩ : ∃ lo, lo = (B : Int) % 256 := ⟨_, rfl⟩
  have HEN := As.mk (fun w0 (h0 : Blk w0 g 120 [.slice A n c, .int .u16 (B : Int)]) (hy0 : Rb w0 A ys) => mpiEnc_any g A n c B ys w0 h0 hB hn hy0 (by omega) hi lo hhi hlo)
  rw [← hhi, ← hlo]
  obtain ⟨enc, henc⟩ : ∃ enc, enc = [hi, lo] ++ ys := ⟨_, rfl⟩
  rw [← henc] at HEN ⊢
  obtain ⟨ne, hne⟩ : ∃ ne, ne = enc.length := ⟨_, rfl⟩
  have HNE := As.mk hne
  have hnel : ne = 2 + n := by rw [hne, henc, hn]; simp; omega
  have hnel2 : ne ≤ 8194 := by omega
  clear hb hy hn hhi hlo henc hne hnel
  go_enter Tryd.func45, Tryd.ntmps45
  go_wp2_with fail
  have C0 : As (Chg NoB w _) := ⟨(Chg.refl NoB w).alloc (.cells #[.slice none 0 0, .int .i64 0, .slice none 0 0, .int .i64 0] 54)⟩
  refine (mpiBytes_any g A n c B _ (HBK.out.alloc _)).mono ?_
  rintro e w1 ⟨rfl, rfl⟩
  go_wp2_with fail
  refine (own_any A n c ys _ HN.out (HY.out.keep C0.out) (by have := HN.out; omega)).mono ?_
  rintro e w2 ⟨v2, rfl, ho2, hc2⟩
  obtain ⟨A2, c2, hv, _, hr2, ha2⟩ := own_form ho2
  have HA2 : As (∀ ad, A2 = some ad → w.heap.size < ad.block) := ⟨fun ad e => by have h1 := (ha2 ad e).1; have h2 : (w.alloc (.cells #[.slice none 0 0, .int .i64 0, .slice none 0 0, .int .i64 0] 54)).heap.size = w.heap.size + 1 := Array.size_push _; omega⟩
  rw [← HN.out] at hv
  subst hv
  have HR2 := As.mk hr2
  have C2 := As.mk (C0.out.trans hc2 (fun _ _ e => e))
  have B2 := As.mk (HBK.out.chg C2.out (fun e => e))
  have F2 := As.mk ((Blk.new w 54 [.slice none 0 0, .int .i64 0, .slice none 0 0, .int .i64 0]).chg hc2 (fun e => e))
  clear ho2 hc2 hr2 ha2
  go_wp2_with fail
  refine (mpiBits_any g _ B _ B2.out).mono ?_
  rintro e w3 ⟨rfl, rfl⟩
  go_wp2_with fail
  refine (HEN.out _ B2.out (HY.out.keep C2.out)).mono ?_
  rintro e w4 ⟨v4, rfl, ho4, hc4⟩
  obtain ⟨A4, c4, hv, _, hr4⟩ := ow_form ho4
  rw [← HNE.out] at hv
  subst hv
  have HR4 := As.mk hr4
  have HR24 := As.mk (HR2.out.keep hc4)
  have C4 := As.mk (C2.out.trans hc4 (fun _ _ e => e))
  have B4 := As.mk (B2.out.chg hc4 (fun e => e))
  have F4 := As.mk (F2.out.chg hc4 (fun e => e))
  clear ho4 hc4 hr4 HR2 F2
  go_wp2_with fail
  refine (own_any A4 ne c4 enc _ HNE.out HR4.out (by have := HNE.out; omega)).mono ?_
  rintro e w5 ⟨v5, rfl, ho5, hc5⟩
  obtain ⟨A5, c5, hv, _, hr5, ha5⟩ := own_form ho5
  have HA5 : As (∀ ad, A5 = some ad → w.heap.size < ad.block) := ⟨fun ad e => by have h1 := (ha5 ad e).1; have h2 := F4.out.lt; omega⟩
  rw [← HNE.out] at hv
  subst hv
  have HR5 := As.mk hr5
  have HR25 := As.mk (HR24.out.keep hc5)
  have C5 := As.mk (C4.out.trans hc5 (fun _ _ e => e))
  have B5 := As.mk (B4.out.chg hc5 (fun e => e))
  have f5 := F4.out.chg hc5 (fun e => e)
  have F5 := As.mk f5
  have x0 := f5.cell 0
  have x1 := f5.cell 1
  have x2 := f5.cell 2
  have x3 := f5.cell 3
  have y0 := f5.frozen 0
  have y1 := f5.frozen 1
  have y2 := f5.frozen 2
  have y3 := f5.frozen 3
  simp only [List.getElem?_cons_zero, List.getElem?_cons_succ] at x0 x1 x2 x3
  clear ho5 hc5 hr5 ha5 HR24 F4 f5
  go_wp2_with fail
  refine (mpiLen_any g A n c B _ B5.out (by omega)).mono ?_
  rintro e w6 ⟨rfl, rfl⟩
  go_wp2_with fail
  have hfin : Chg (fun b => b = w.heap.size) w6 _ := ((((Chg.refl (fun b => b = w.heap.size) w6).setCell (p := ⟨w.heap.size, 0, none⟩) (.slice A2 n c2) (fun _ => rfl)).setCell (p := ⟨w.heap.size, 1, none⟩) (.int .i64 (B : Int)) (fun _ => rfl)).setCell (p := ⟨w.heap.size, 2, none⟩) (.slice A5 ne c5) (fun _ => rfl)).setCell (p := ⟨w.heap.size, 3, none⟩) (.int .i64 (2 + (n : Int))) (fun _ => rfl)
  refine bodyPost_ret (v := .agg #[.slice A2 n c2, .int .i64 (B : Int), .slice A5 ne c5, .int .i64 (2 + (n : Int))]) ?_ rfl ?_
  · rw [results_cell_one rfl]
    go_simp
  · refine ⟨A2, c2, A5, c5, by rw [← HN.out, ← HNE.out], HR25.out.chg hfin (fun ad e _ h => by have := HA2.out ad e; omega), HR5.out.chg hfin (fun ad e _ h => by have := HA5.out ad e; omega), C5.out.trans hfin (fun i hi e => by omega), HA2.out, HA5.out⟩
end Go.Proofs.YtllcfihbepmphaaDoor
