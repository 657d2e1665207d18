/- The contract of (spec.mixer).Sum. -/
import Derived.Test.YtdofkokeebgigaaDoorStrm
import Derived.Deep.DeepCutAuto
import Derived.Laws.Entries
set_option linter.unusedVariables false
set_option linter.unusedSimpArgs false
namespace Go.Proofs.YtdofkokeebgigaaDoor
open Go.RowKit V
theorem dmix_snd {sub : List Int} {n : Nat} (hn : 1 ≤ n) : ∀ (xs : List Int) (st : List Int × Nat), (dmix sub n st xs).2 % n = (st.2 + xs.length) % n
  | [], st => by simp [dmix]
  | x :: xs, st => by
    show (dmix sub n (dst sub n st x) xs).2 % n = _
    rw [dmix_snd hn xs]
    simp only [dst, List.length_cons]
    rw [Nat.mod_add_mod]
    congr 1
    omega
set_option maxRecDepth 100000 in
set_option maxHeartbeats 1000000 in
theorem mixSum_any (SA : Option Addr) (sc : Nat) (MA : Option Addr) (n mc : Nat) (sub mask : List Int) (P : Option Addr) (m pc : Nat) (ps : List Int) (w : World) (hs : sub.length = 256) (hm : mask.length = n) (hn1 : 1 ≤ n) (hn2 : n ≤ 64) (rs : Rb w SA sub) (rm : Rb w MA mask) (bs : Byt sub) (bm : Byt mask) (hp : Rb w P ps) (hpm : m = ps.length) (hb : Byt ps) :
    Calls Tryd.prog 47 #[.agg #[.slice SA 256 sc, .slice MA n mc], .slice P m pc] w (Gives NoB w (dmix sub n (mask, 0) ps).1) := by
  have RS := As.mk (Rf.of rs (Nat.le_refl _))
  have RM := As.mk rm
  have HBB := As.mk (And.intro bs bm)
  have HS := As.mk hs
  have HMN : As (n = mask.length) := ⟨hm.symm⟩
  have HP := As.mk (Rf.of hp (Nat.le_refl _))
  have HBY := As.mk hb
  have HM := As.mk hpm
  have hm63 : m ≤ 9223372036854775807 := by have := hp.1; omega
  have OK0 : As (Okst n (mask, 0)) := ⟨⟨hm, bm, by omega⟩⟩
  clear rs rm bs bm hs hm hp hb hpm
  go_enter Tryd.func47, Tryd.ntmps47
  go_upto_region 3 with fail
  obtain ⟨w0, hw0⟩ : ∃ w0, w0 = (w.alloc (.cells #[.slice SA 256 sc, .slice MA n mc] 48)).alloc (.cells #[.slice SA 256 sc, .slice MA n mc] 24) := ⟨_, rfl⟩
  have C0 : As (Chg NoB w w0) := ⟨by rw [hw0]; exact ((Chg.refl NoB w).alloc _).alloc _⟩
  have b0 : Blk w0 (w.heap.size + 1) 24 [.slice SA 256 sc, .slice MA n mc] := by
    have h := Blk.new (w.alloc (.cells #[.slice SA 256 sc, .slice MA n mc] 48)) 24 [.slice SA 256 sc, .slice MA n mc]
    rw [show (w.alloc (.cells #[.slice SA 256 sc, .slice MA n mc] 48)).heap.size = w.heap.size + 1 from Array.size_push _] at h
    rw [hw0]; exact h
  rw [← hw0]
  have x0 := b0.cell 0
  have x1 := b0.cell 1
  simp only [List.getElem?_cons_zero, List.getElem?_cons_succ] at x0 x1
  have BK0 := As.mk b0
  clear hw0 b0
  have xA : ∀ o, (w0.alloc o).cell? ⟨w.heap.size + 1, 1, none⟩ = some (.slice MA n mc) := fun o => (BK0.out.alloc o).cell 1
  go_wp2_with (at_builtin; refine wpList_append_e rfl _ _ 22 rfl 5 .u8 1 Tryd.underlying22 info8 (by decide) _ (w.heap.size + 2) mask MA n mc rfl rfl HMN.out (RM.out.keep ?r1) ?r2 (by have := HMN.out; omega) ?_
               (case r1 => repeat (first | exact C0.out | (with_reducible apply Chg.drew) | (with_reducible apply Chg.alloc)))
               (case r2 => exact Nat.le_trans BK0.out.lt (Chg.size (S := NoB) (by repeat (first | exact Chg.refl _ _ | (with_reducible apply Chg.drew) | (with_reducible apply Chg.alloc)))))
               intro v1 w1 ho1 hc1
               have hpos : 0 < mask.length := by have := HMN.out; omega
               have hw1 := ow_own ho1 hpos
               obtain ⟨g, c, rfl, _, hg1, hg2⟩ := own_form_pos hw1 hpos
               rw [← HMN.out] at hw1
               rw [← HMN.out]
               have HO1 := As.mk hw1
               have hc01 : Chg NoB w0 w1 := Chg.trans (by repeat (first | exact Chg.refl _ _ | (with_reducible apply Chg.drew) | (with_reducible apply Chg.alloc))) hc1 (fun _ _ e => e)
               have B1 := As.mk (BK0.out.chg hc01 (fun e => e))
               have C1 := As.mk (C0.out.trans hc01 (fun _ _ e => e))
               have HG := As.mk hg1
               clear ho1 hc1 hw1 hg1 hg2 hpos hc01 x0 x1 xA)
  go_loopw [21] (fun i wr => ∃ j : Nat, j ≤ m ∧ i = .int .i64 j ∧ As (Own wr (w.heap.size + 2) 5 .u8 (.slice (some ⟨g, 0, none⟩) n c) (dmix sub n (mask, 0) (ps.take j)).1) ∧ As (Chg (fun b => b = g) w1 wr)) (fun i _ => m - (intOf i).toNat)
  case atStart => exact ⟨0, by omega, rfl, ⟨by simpa [dmix] using HO1.out⟩, ⟨Chg.refl _ _⟩⟩
  case round =>
    obtain ⟨j, hj, rfl, HOW, HC⟩ := hrel
    by_cases hlt : j < m
    · obtain ⟨ad, rfl, cp⟩ := ((HP.out.keep C1.out).chg HC.out (fun b _ hb e => by have := HG.out; omega)).1.at_ (j : Int) (by omega) (by have := HM.out; omega)
      rw [Int.toNat_natCast] at cp
      have HST := As.mk (dmix_take (sub := sub) (n := n) (st := (mask, 0)) (xs := ps) (k := j) (by have := HM.out; omega))
      have hpb : IsB (rd ps (j : Int)) := HBY.out.rd _
      have hok := okst_mix HBB.out.1 hn1 (ps.take j) (mask, 0) OK0.out
      have hk2 : (dmix sub n (mask, 0) (ps.take j)).2 = j % n := by
        have h1 := dmix_snd (sub := sub) hn1 (ps.take j) (mask, 0)
        rw [Nat.mod_eq_of_lt hok.2.2, List.length_take, Nat.zero_add, Nat.min_eq_left (by have := HM.out; omega)] at h1
        exact h1
      have how := HOW.out
      generalize hb : rd ps (j : Int) = b at *
      generalize hs : dmix sub n (mask, 0) (ps.take j) = s at *
      have HOK := As.mk hok
      have hk : s.2 < n := hok.2.2
      obtain ⟨hf0, hfz⟩ := own_at how s.2 (by rw [hok.1]; exact hk)
      obtain ⟨k, hkk⟩ : ∃ k, k = s.2 := ⟨_, rfl⟩
      obtain ⟨k1, hk1⟩ : ∃ k1, k1 = (k + 1) % n := ⟨_, rfl⟩
      have hk1n : k1 < n := by rw [hk1]; exact Nat.mod_lt _ (by omega)
      obtain ⟨hf1, _⟩ := own_at how k1 (by rw [hok.1]; exact hk1n)
      rw [← hkk] at hf0 hfz hk hk2
      have hq0 : IsB (rd s.1 (k : Int)) := hok.2.1.rd _
      have hq1 : IsB (rd s.1 (k1 : Int)) := hok.2.1.rd _
      obtain ⟨t, ht⟩ := Int.eq_ofNat_of_zero_le (x8_byte hq0 hpb).1
      have ht2 : t < 256 := by have := (x8_byte hq0 hpb).2; omega
      obtain ⟨sa, hsa, csub⟩ := ((RS.out.keep C1.out).chg HC.out (fun b _ hb e => by have := HG.out; omega)).1.at_ (t : Int) (by omega) (by rw [HS.out]; omega)
      rw [Int.toNat_natCast] at csub
      have hq2 : IsB (rd sub (t : Int)) := HBB.out.1.rd _
      have hbl := B1.out.chg HC.out (fun e => by have := HG.out; omega)
      have c0 := hbl.cell 0
      simp only [List.getElem?_cons_zero, List.getElem?_cons_succ] at c0
      rw [hsa] at c0
      have hset := own_set how k (X8 (rd sub (t : Int)) (rd s.1 (k1 : Int)))
      have HNEW : As (dst sub n s b = (s.1.set k (X8 (rd sub (t : Int)) (rd s.1 (k1 : Int))), k1)) := ⟨by
        unfold dst
        rw [← hkk, ht, ← hk1]⟩
      have HSET := As.mk hset
      have hx1 : Go.bits .xor .u8 (rd s.1 (k : Int)) b = (t : Int) := ht
      have hmod : ((j : Int).tmod (n : Int)) = (k : Int) := by rw [hk2]; exact Int.ofNat_tmod _ _
      have hmod2 : ((j : Int) % (n : Int)) = (k : Int) := by rw [hk2]; exact (Int.natCast_emod _ _).symm
      have hk1j : k1 = (j + 1) % n := by rw [hk1, hk2, Nat.mod_add_mod]
      have hmod3 : (((j : Int) + 1).tmod (n : Int)) = (k1 : Int) := by rw [hk1j, show ((j : Int) + 1) = ((j + 1 : Nat) : Int) from by omega]; exact Int.ofNat_tmod _ _
      have hmod4 : (((j : Int) + 1) % (n : Int)) = (k1 : Int) := by rw [hk1j, show ((j : Int) + 1) = ((j + 1 : Nat) : Int) from by omega]; exact (Int.natCast_emod _ _).symm
      have ht3 : (t : Int) < 256 := by omega
      have hnz : ((n : Int) == 0) = false := by simp; omega
      have hnz2 : ¬ (n = 0) := by omega
      have hwk1 : IntKind.i64.wrap (k1 : Int) = (k1 : Int) := by simp [IntKind.wrap, IntKind.bits, IntKind.signed]; omega
      have hk1i : (k1 : Int) < (n : Int) := by omega
      have hki : (k : Int) < (n : Int) := by omega
      have hwk : IntKind.i64.wrap ((j : Int) + 1) = (j : Int) + 1 := by simp [IntKind.wrap, IntKind.bits, IntKind.signed]; omega
      generalize hv0 : rd s.1 (k : Int) = q0 at *
      generalize hv1 : rd s.1 (k1 : Int) = q1 at *
      generalize hv2 : rd sub (t : Int) = q2 at *
      have q00 := hq0.1
      have q01 := hq0.2
      have q10 := hq1.1
      have q11 := hq1.2
      have q20 := hq2.1
      have q21 := hq2.2
      have b0 := hpb.1
      have b1 := hpb.2
      clear hset hbl how hok hb hs hkk hk1 ht hsa hq0 hq1 hq2 hpb hv0 hv1 hv2 hk2 hk1j
      unfold X8 at HSET HNEW
      go_wp2
      go_still_tail 25, (by kernel_rfl)
      change wpList _ _ _ _ _ (World.drew wr)
      go_wp2
      go_roundw
      case rel =>
        refine ⟨j + 1, by omega, by go_num, ⟨?_⟩, ⟨?_⟩⟩
        · rw [HST.out, HNEW.out]
          exact own_keep HSET.out ((Chg.refl NoB _).drew)
        · exact (HC.out.setCell (p := ⟨g, k, none⟩) _ (fun _ => rfl)).drew
      case measure => simp [intOf]; omega
    · obtain rfl : j = m := by omega
      go_wp2
      go_ret
      refine ⟨_, rfl, ?_, C1.out.trans HC.out (fun b hb e => by have := HG.out; omega)⟩
      have := HOW.out
      rw [List.take_of_length_le (by have := HM.out; omega)] at this
      have h2 := own_lower (base' := w.heap.size) this (by omega)
      exact h2
end Go.Proofs.YtdofkokeebgigaaDoor
