/- The contracts of byteutil.ShiftBytesLeft, GfnDouble. -/
import Derived.Test.YtlpningplmbnhaaDoorBase
import Derived.Test.YtlpningplmbnhaaDoorV3
import Derived.Test.YtlpningplmbnhaaDoorShiftP
import Derived.Deep.DeepCutAuto
set_option linter.unusedVariables false
set_option linter.unusedSimpArgs false
namespace Go.Proofs.YtlpningplmbnhaaDoor
open Go.RowKit V
def shl1At (xs : List Int) (k : Nat) : List Int := tab xs.length fun j => if j < k then ((sb xs 0 1 j : Nat) : Int) else 0
theorem shl1At_zero (xs : List Int) : shl1At xs 0 = List.replicate xs.length 0 := by
  rw [replicate_tab]
  exact tab_congr fun j _ => if_neg (by omega)
theorem shl1At_step (xs : List Int) (k : Nat) : (shl1At xs k).set k ((sb xs 0 1 k : Nat) : Int) = shl1At xs (k + 1) := by
  unfold shl1At
  rw [tab_set]
  refine tab_congr fun j hj => ?_
  by_cases e : j = k
  · subst e; rw [if_pos rfl, if_pos (by omega)]
  · rw [if_neg e]
    by_cases h3 : j < k
    · rw [if_pos h3, if_pos (by omega)]
    · rw [if_neg h3, if_neg (by omega)]
theorem shl1At_end {xs : List Int} (h : Byt xs) : shl1At xs xs.length = shifted xs 1 xs.length :=
  tab_congr fun j hj => by rw [if_pos hj, sb_pb h 0 1 j (by omega)]
/-- Twice an element of the field of 2^128 elements. -/
def dbl (xs : List Int) : List Int := (shifted xs 1 16).set 15 (Go.bits .xor .u8 ((shifted xs 1 16).getD 15 0) ((bitn xs 0 * 135 : Nat) : Int))
theorem dbl_length (xs : List Int) : (dbl xs).length = 16 := by
  unfold dbl
  rw [List.length_set]
  exact tab_length _ _
theorem shifted_byt (xs : List Int) (n m : Nat) : Byt (shifted xs n m) := tab_byt fun i _ => by have := pb_lt xs n i 8 (by omega); omega
theorem set_byt {xs : List Int} (h : Byt xs) (i : Nat) {v : Int} (hv : 0 ≤ v ∧ v ≤ 255) : Byt (xs.set i v) := fun x hx => by
  rcases List.mem_or_eq_of_mem_set hx with h1 | h1
  · exact h x h1
  · rw [h1]; exact hv
theorem dbl_byt (xs : List Int) : Byt (dbl xs) := set_byt (shifted_byt _ _ _) _ (bx_range _ _ ((shifted_byt _ _ _).getD _) (by have := bitn_lt xs 0; omega))
set_option maxRecDepth 100000 in
set_option maxHeartbeats 2000000 in
theorem shiftBytes_any (A : Option Addr) (n c : Nat) (xs : List Int) (w : World) (hn : n = xs.length) (rx : Rb w A xs) (bx : Byt xs) (h1 : 1 ≤ n) (hl : n ≤ 140737488351232) :
    Calls Tryd.prog 33 #[.slice A n c] w (Gives NoB w (shifted xs 1 n)) := by
  have HN := As.mk hn
  have RX := As.mk rx
  have BX := As.mk bx
  clear rx bx hn
  go_enter Tryd.func33, Tryd.ntmps33
  go_wp2_with ((with_reducible refine gate (N := 9) rfl ?_); refine wpList_make_k rfl _ 22 rfl 5 .u8 1 Tryd.underlying22 info8 (by decide) n _ rfl rfl (by omega) ?_
               intro w2 g2 HG2 ho2 hc2 hz2
               have C2 := As.mk hc2
               have O2 : As (Own w2 w.heap.size 5 .u8 (.slice (some ⟨g2, 0, none⟩) n n) (shl1At xs 0)) := ⟨by rw [shl1At_zero, ← HN.out]; exact ho2⟩
               clear ho2 hc2 hz2)
  obtain ⟨m, hm⟩ : ∃ m, n = m + 1 := ⟨n - 1, by omega⟩
  have hw : wrap64 ((n : Int) - 1) = (m : Int) := by unfold wrap64; omega
  have hw2 : (n : Int) - 1 = (m : Int) := by omega
  have HMM := As.mk hm
  clear hm
  go_loopw [5] (fun i wr => ∃ k : Nat, k ≤ m ∧ i = .int .i64 k ∧ As (Own wr w.heap.size 5 .u8 (.slice (some ⟨g2, 0, none⟩) n n) (shl1At xs k)) ∧ As (Chg NoB w wr)) (fun i _ => m - (intOf i).toNat)
  case atStart => exact ⟨0, Nat.zero_le _, rfl, O2, C2⟩
  case round =>
    clear O2 C2
    obtain ⟨k, hk, rfl, HO, HC⟩ := hrel
    have hmm := HMM.out
    by_cases hlt : k < m
    · have hk1 : k + 1 < n := by omega
      obtain ⟨ad, rfl, hc⟩ := (RX.out.keep HC.out).at_ (k : Int) (by omega) (by have := HN.out; omega)
      rw [Int.toNat_natCast, rd_nat] at hc
      obtain ⟨ad', e', hd⟩ := (RX.out.keep HC.out).at_ ((k + 1 : Nat) : Int) (by omega) (by have := HN.out; omega)
      injection e' with e'; subst e'
      rw [Int.toNat_natCast, rd_nat] at hd
      have hset := own_set HO.out k ((sb xs 0 1 k : Nat) : Int)
      rw [shl1At_step] at hset
      have HS := As.mk hset
      obtain ⟨f0, f1⟩ := own_at HO.out k (by rw [show (shl1At xs k).length = xs.length from tab_length _ _, ← HN.out]; omega)
      have hb := BX.out.getD k
      have hb2 := BX.out.getD (k + 1)
      obtain ⟨b0, b1⟩ := hb
      obtain ⟨b2, b3⟩ := hb2
      have HV := As.mk (sb_or BX.out 0 1 k)
      have HE := As.mk (And.intro (byn_cast BX.out k) (byn_cast BX.out (k + 1)))
      have HVAL : As (Go.bits .or .u8 (xs.getD k 0 * 2 % 256) (xs.getD (k + 1) 0 / 128) = ((sb xs 0 1 k : Nat) : Int)) := ⟨by
        rw [← HV.out, ← HE.out.1, ← HE.out.2, Nat.zero_add]
        congr 1⟩
      have i1 : (k : Int) < (n : Int) := by omega
      have i2 : (k : Int) + 1 < (n : Int) := by omega
      have hwk2 : (k : Int) + 1 = ((k + 1 : Nat) : Int) := by omega
      clear hset
      generalize hq : xs.getD k 0 = q at *
      generalize hq2 : xs.getD (k + 1) 0 = q2 at *
      clear hq hq2
      obtain ⟨k1, hk1e⟩ : ∃ k1, k1 = k + 1 := ⟨_, rfl⟩
      rw [← hk1e] at hd hwk2
      have HK1 := As.mk hk1e
      have hwk : IntKind.i64.wrap (k1 : Int) = (k1 : Int) := by simp [IntKind.wrap, IntKind.bits, IntKind.signed]; omega
      have i3 : (k1 : Int) < (n : Int) := by omega
      have i4 : k1 < n := by omega
      clear hk1e i2 hmm hk1
      go_wp2
      go_still_tail 15, (by kernel_rfl)
      change wpList _ _ _ _ _ (World.drew wr)
      go_wp2
      exact ⟨⟨k1, by omega, rfl, ⟨by rw [HVAL.out, HK1.out]; exact HS.out⟩, ⟨(HC.out.setCell (p := ⟨g2, k, none⟩) _ (fun h => by exfalso; have h1 : g2 < w.heap.size := h; have := own_blocks HO.out; omega)).drew⟩⟩, by have := HK1.out; simp [intOf]; omega⟩
    · obtain rfl : k = m := by omega
      obtain ⟨ad, rfl, hc⟩ := (RX.out.keep HC.out).at_ (k : Int) (by omega) (by have := HN.out; omega)
      rw [Int.toNat_natCast, rd_nat] at hc
      have hset := own_set HO.out k ((sb xs 0 1 k : Nat) : Int)
      rw [shl1At_step] at hset
      have HS := As.mk hset
      obtain ⟨f0, f1⟩ := own_at HO.out k (by rw [show (shl1At xs k).length = xs.length from tab_length _ _, ← HN.out]; omega)
      obtain ⟨b0, b1⟩ := BX.out.getD k
      have HVAL : As (xs.getD k 0 * 2 % 256 = ((sb xs 0 1 k : Nat) : Int)) := ⟨by
        rw [sb_last 0 1 k (by have := HN.out; omega), Nat.zero_add, ← byn_cast BX.out k]
        omega⟩
      have i1 : (k : Int) < (n : Int) := by omega
      have i2 : k < n := by omega
      generalize hq : xs.getD k 0 = q at *
      clear hset hq hmm
      go_wp2
      go_ret
      refine ⟨_, rfl, ?_, HC.out.setCell (p := ⟨g2, k, none⟩) _ (fun h => by exfalso; have h1 : g2 < w.heap.size := h; have := own_blocks HO.out; omega)⟩
      have e : shl1At xs (k + 1) = shifted xs 1 n := by
        have h := shl1At_end BX.out
        rw [← HN.out] at h
        rw [← HMM.out]
        exact h
      rw [HVAL.out, ← e]
      exact HS.out
set_option maxRecDepth 100000 in
set_option maxHeartbeats 1000000 in
theorem gfn_any (A : Option Addr) (c : Nat) (xs : List Int) (w : World) (hn : xs.length = 16) (rx : Rb w A xs) (bx : Byt xs) :
    Calls Tryd.prog 27 #[.slice A 16 c] w (Gives NoB w (dbl xs)) := by
  have HN : As (16 = xs.length) := ⟨hn.symm⟩
  have RX := As.mk rx
  have BX := As.mk bx
  have HL : As ((shifted xs 1 16).length = 16) := ⟨tab_length _ _⟩
  have HB := As.mk (shifted_byt xs 1 16)
  clear hn rx bx
  go_enter Tryd.func27, Tryd.ntmps27
  go_wp2_with fail
  refine (shiftBytes_any A 16 c xs w HN.out RX.out BX.out (by omega) (by omega)).mono ?_
  rintro e1 w1 ⟨v1, rfl, ho1, hc1⟩
  obtain ⟨g, c1, rfl, _, hg1, hg2⟩ := own_form_pos ho1 (by rw [HL.out]; omega)
  rw [HL.out] at ho1 ⊢
  have HO := As.mk ho1
  have HC := As.mk hc1
  have HG := As.mk hg1
  obtain ⟨f0, f1⟩ := own_at ho1 15 (by rw [HL.out]; omega)
  have hset := own_set ho1 15 (Go.bits .xor .u8 ((shifted xs 1 16).getD 15 0) ((bitn xs 0 * 135 : Nat) : Int))
  have HS : As (Own (w1.setCell ⟨g, 15, none⟩ (.int .u8 (Go.bits .xor .u8 ((shifted xs 1 16).getD 15 0) ((bitn xs 0 * 135 : Nat) : Int)))) w.heap.size 5 .u8 (.slice (some ⟨g, 0, none⟩) 16 c1) (dbl xs)) := ⟨hset⟩
  obtain ⟨ad, rfl, hc⟩ := (RX.out.keep hc1).at_ 0 (by omega) (by have := HN.out; omega)
  have ha0 : ad.add (0 : Int).toNat = ad := by simp [Addr.add]
  rw [ha0] at hc
  have hr0 : rd (shifted xs 1 16) ((15 : Nat) : Int) = (shifted xs 1 16).getD 15 0 := rd_nat _ _
  rw [hr0] at f0
  have hx0 : rd xs 0 = xs.getD 0 0 := rfl
  rw [hx0] at hc
  obtain ⟨b0, b1⟩ := BX.out.getD 0
  obtain ⟨s0, s1⟩ := HB.out.getD 15
  have HQ : As ((xs.getD 0 0) / 128 * 135 = ((bitn xs 0 * 135 : Nat) : Int)) := ⟨by
    have h1 : bitn xs 0 = byn xs 0 / 128 % 2 := rfl
    have h2 := byn_cast BX.out 0
    have h3 := byn_lt BX.out 0
    rw [h1, ← h2]
    have h4 : byn xs 0 / 128 = 0 ∨ byn xs 0 / 128 = 1 := by omega
    have h5 : ((byn xs 0 : Nat) : Int) / 128 = ((byn xs 0 / 128 : Nat) : Int) := by omega
    rw [h5]
    rcases h4 with h4 | h4 <;> rw [h4] <;> rfl⟩
  have ha1 : ad.add 0 = ad := by simp [Addr.add]
  generalize (shifted xs 1 16).getD 15 0 = sv at *
  generalize xs.getD 0 0 = q at *
  clear ho1 hc1 hg1 hg2 hset hr0 hx0 ha0
  go_wp2_with fail
  go_still_tail 10, (by kernel_rfl)
  change wpList _ _ _ _ _ (World.drew w1)
  go_wp2
  go_ret
  refine ⟨_, rfl, ?_, (HC.out.setCell (p := ⟨g, 15, none⟩) _ (fun h => by exfalso; have h1 : g < w.heap.size := h; have := HG.out; omega)).drew⟩
  have hl : (dbl xs).length = 16 := dbl_length xs
  rw [HQ.out]
  exact own_keep HS.out ((Chg.refl NoB _).drew)
end Go.Proofs.YtlpningplmbnhaaDoor
