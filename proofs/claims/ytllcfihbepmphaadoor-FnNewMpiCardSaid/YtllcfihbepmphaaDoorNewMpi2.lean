/- The contracts of spec.MPI and laws.together. -/
import Derived.Test.YtllcfihbepmphaaDoorNewMpi
import Derived.Test.YtllcfihbepmphaaDoorOctets
import Derived.Test.YtllcfihbepmphaaDoorSpecMpi
set_option linter.unusedVariables false
set_option linter.unusedSimpArgs false
namespace Go.Proofs.YtllcfihbepmphaaDoor
open Go.RowKit V
theorem oct2 (B : Nat) (h : B ≤ 65535) : oct (B : Int) 2 = [(B : Int) / 256, (B : Int) % 256] := by
  unfold oct
  simp [tab, List.range, List.range.loop]
  omega
set_option maxRecDepth 100000 in
set_option maxHeartbeats 2000000 in
theorem specMPI_any (A : Option Addr) (n c : Nat) (xs : List Int) (w : World) (hn : n = xs.length) (hnc : n ≤ c) (hx : Rb w A xs) (hb : Byt xs) (hl : n ≤ 8191) :
    Calls Tryd.prog 30 #[.slice A n c] w fun e w' => ∃ v, e = .returned v ∧ Ow w' w.heap.size 5 .u8 v (mpiL (sig xs)) ∧ Chg NoB w w' := by
  have HX := As.mk hx
  have HN := As.mk hn
  have hsl := sig_length xs
  have hzb := sig_byt hb
  have hzz : (sig xs).length = 0 ∨ rd (sig xs) 0 ≠ 0 := by
    by_cases h : sig xs = []
    · exact Or.inl (by rw [h]; rfl)
    · exact Or.inr (sig_head h)
  have hbb := bitsN_bytes hzb hzz
  have HBT := As.mk (fun w0 (h0 : Rb w0 A xs) => bits_any A n c xs w0 hn hnc h0 hb (by omega))
  have HSG := As.mk (fun w0 (h0 : Rb w0 A xs) => significant_any A n c xs w0 hn hnc h0 (by omega))
  have HOC := As.mk (fun w0 => octets_any (bitsN (sig xs) : Int) 2 w0 (by omega) (by omega) (by omega))
  rw [oct2 _ (by omega)] at HOC
  have HZB := As.mk hzb
  have HML : As ([(bitsN (sig xs) : Int) / 256, (bitsN (sig xs) : Int) % 256] ++ sig xs = mpiL (sig xs)) := ⟨rfl⟩
  have HLE : As ((sig xs).length ≤ 8191) := ⟨by omega⟩
  generalize mpiL (sig xs) = L at *
  clear hx hn hb hsl hzb hzz hbb
  go_enter Tryd.func30, Tryd.ntmps30
  go_wp2_with fail
  refine (HBT.out _ HX.out).mono ?_
  rintro e w1 ⟨⟨m, rfl, hm⟩, hc1⟩
  have hmv := bitsN_of HZB.out hm
  subst hmv
  have HX1 := As.mk (HX.out.keep hc1)
  have C1 := As.mk hc1
  clear hm hc1
  generalize (bitsN (sig xs) : Int) = B at *
  go_wp2_with fail
  refine (HOC.out _).mono ?_
  rintro e w2 ⟨v2, rfl, ho2, hc2⟩
  have C2 := As.mk (C1.out.trans hc2 (fun _ _ e => e))
  have HO2 := As.mk (own_lower ho2 C1.out.size)
  have HX2 := As.mk (HX1.out.keep hc2)
  clear ho2 hc2
  go_wp2_with fail
  refine (HSG.out _ HX2.out).mono ?_
  rintro e w3 ⟨v3, rfl, ho3, hc3⟩
  obtain ⟨A3, c3, hv, _, hr3⟩ := ow_form ho3
  obtain ⟨zl, hzl⟩ : ∃ zl, zl = (sig xs).length := ⟨_, rfl⟩
  rw [← hzl] at hv
  subst hv
  have HZL := As.mk hzl
  have C3 := As.mk (C2.out.trans hc3 (fun _ _ e => e))
  have HO3 := As.mk (own_keep HO2.out hc3)
  have HR3 := As.mk hr3
  have HS3 := As.mk C3.out.size
  clear ho3 hc3 hr3 hzl
  go_wp2_with ((with_reducible refine gate (N := 8) rfl ?_); refine wpList_append_ow rfl _ _ 22 rfl 5 .u8 1 Tryd.underlying22 info8 (by decide) v2 w.heap.size [B / 256, B % 256] (sig xs) A3 zl c3 rfl rfl HZL.out (ow_of HO3.out) HR3.out HS3.out (by have := HLE.out; simp; omega) ?_; intro v4 w4 ho4 hc4)
  go_ret
  exact ⟨v4, rfl, by rw [← HML.out]; exact ho4, Chg.over C3.out hc4 (Nat.le_refl _)⟩
set_option maxRecDepth 100000 in
set_option maxHeartbeats 2000000 in
theorem together_any (g : Nat) (A1 : Option Addr) (n1 c1 : Nat) (A2 : Option Addr) (n2 c2 : Nat) (xs ys : List Int) (w : World) (hb : Blk w g 22 [.slice A1 n1 c1, .slice A2 n2 c2]) (hn1 : n1 = xs.length) (hn2 : n2 = ys.length) (hx : Rb w A1 xs) (hy : Rb w A2 ys) (h1 : n1 ≤ 1048576) (h2 : n2 ≤ 1048576) :
    Calls Tryd.prog 31 #[.slice (some ⟨g, 0, none⟩) 2 2] w fun e w' => ∃ v, e = .returned v ∧ Ow w' w.heap.size 5 .u8 v (xs ++ ys) ∧ Chg NoB w w' := by
  have HX := As.mk hx
  have HY := As.mk hy
  have HN1 := As.mk hn1
  have HN2 := As.mk hn2
  have HB := As.mk hb
  clear hx hy hn1 hn2 hb
  go_enter Tryd.func31, Tryd.ntmps31
  go_wp2_with fail
  go_loopw [3, 5, 8] (fun v _ i w' => ∃ (k : Nat) (vv : Value), k ≤ 2 ∧ v = vv ∧ i = .int .i64 k ∧ As (Ow w' w.heap.size 5 .u8 vv (if k = 0 then [] else if k = 1 then xs else xs ++ ys)) ∧ As (Chg NoB w w')) (fun _ _ i _ => 2 - (intOf i).toNat)
  case atStart => exact ⟨0, _, Nat.zero_le _, rfl, rfl, ⟨ow_of (own_nil _ _ _ _)⟩, ⟨Chg.refl _ _⟩⟩
  case round =>
    obtain ⟨k, vv, hk, hv, rfl, HO, HC⟩ := hrel
    subst hv
    have hb := HB.out.chg HC.out (fun e => e)
    have x0 := hb.cell 0
    have x1 := hb.cell 1
    simp only [List.getElem?_cons_zero, List.getElem?_cons_succ] at x0 x1
    have HZ := As.mk HC.out.size
    clear hb
    have hk3 : k = 0 ∨ k = 1 ∨ k = 2 := by omega
    rcases hk3 with rfl | rfl | rfl
    · have ho : Ow wr w.heap.size 5 .u8 _ [] := HO.out
      obtain ⟨A0, c0, hvs, _, _⟩ := ow_form ho
      subst hvs
      have HO0 := As.mk ho
      have HX1 := As.mk (HX.out.keep HC.out)
      clear ho HO
      go_wp2_with ((with_reducible refine gate (N := 14) rfl ?_); refine wpList_append_ow rfl _ _ 22 rfl 5 .u8 1 Tryd.underlying22 info8 (by decide) (.slice A0 0 c0) w.heap.size [] xs A1 n1 c1 rfl rfl HN1.out HO0.out HX1.out HZ.out (by have := HN1.out; simp; omega) ?_; intro v4 w4 ho4 hc4; have HO4 : As (Ow w4 w.heap.size 5 .u8 v4 xs) := ⟨by simpa using ho4⟩; have HC4 : As (Chg NoB w w4) := ⟨Chg.over HC.out hc4 (Nat.le_refl _)⟩; clear ho4 hc4)
      go_roundw
      case rel => exact ⟨1, v4, by omega, rfl, rfl, HO4, HC4⟩
      case measure => simp [intOf]
    · have ho : Ow wr w.heap.size 5 .u8 _ xs := HO.out
      obtain ⟨A0, c0, hvs, _, _⟩ := ow_form ho
      rw [← HN1.out] at hvs
      subst hvs
      have HO0 := As.mk ho
      have HY1 := As.mk (HY.out.keep HC.out)
      clear ho HO
      go_wp2_with ((with_reducible refine gate (N := 14) rfl ?_); refine wpList_append_ow rfl _ _ 22 rfl 5 .u8 1 Tryd.underlying22 info8 (by decide) (.slice A0 n1 c0) w.heap.size xs ys A2 n2 c2 rfl rfl HN2.out HO0.out HY1.out HZ.out (by have := HN1.out; have := HN2.out; omega) ?_; intro v4 w4 ho4 hc4; have HO4 := As.mk ho4; have HC4 : As (Chg NoB w w4) := ⟨Chg.over HC.out hc4 (Nat.le_refl _)⟩; clear ho4 hc4)
      go_roundw
      case rel => exact ⟨2, v4, by omega, rfl, rfl, HO4, HC4⟩
      case measure => simp [intOf]
    · have ho : Ow wr w.heap.size 5 .u8 _ (xs ++ ys) := HO.out
      have HO0 := As.mk ho
      clear ho HO
      go_wp2_with fail
      go_ret
      exact ⟨_, rfl, HO0.out, HC.out⟩
end Go.Proofs.YtllcfihbepmphaaDoor
