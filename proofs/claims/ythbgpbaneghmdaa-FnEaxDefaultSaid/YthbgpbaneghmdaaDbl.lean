/- The contracts of spec.Doubled, byteutil.RightXor. -/
import Derived.Test.YthbgpbaneghmdaaGfn
import Derived.Test.YthbgpbaneghmdaaShift2
set_option linter.unusedVariables false
set_option linter.unusedSimpArgs false
namespace Go.Proofs.Ythbgpbaneghmdaa
open Go.RowKit V
set_option maxRecDepth 100000 in
set_option maxHeartbeats 1000000 in
theorem doubled_any (A : Option Addr) (c : Nat) (xs : List Int) (w : World) (hn : xs.length = 16) (rx : Rb w A xs) (bx : Byt xs) :
    Calls Try.prog 32 #[.slice A 16 c] w (Gives NoB w (dbl xs)) := by
  have HN : As (16 = xs.length) := ⟨hn.symm⟩
  have RX := As.mk rx
  have BX := As.mk bx
  have HL : As ((shifted xs 1 16).length = 16) := ⟨tab_length _ _⟩
  have HB := As.mk (shifted_byt xs 1 16)
  clear hn rx bx
  go_enter Try.func32, Try.ntmps32
  go_wp2_with fail
  refine (specShifted_any A 16 c xs 1 16 w HN.out RX.out BX.out (by omega) (by omega) (by omega)).mono ?_
  rintro e1 w1 ⟨v1, rfl, ho1, hc1⟩
  obtain ⟨g, c1, rfl, _, hg1, hg2⟩ := own_form_pos ho1 (by rw [HL.out]; omega)
  rw [HL.out] at ho1 ⊢
  have HO := As.mk ho1
  have HC := As.mk hc1
  have HG := As.mk hg1
  clear ho1 hc1 hg1 hg2
  go_wp2_with fail
  refine (bitAt_any A 16 c xs 0 w1 HN.out (RX.out.keep HC.out) BX.out (by omega) (by omega)).mono ?_
  rintro e2 w2 ⟨rfl, rfl⟩
  have hbl := bitn_lt xs 0
  by_cases hb : bitn xs 0 = 1
  · rw [hb]
    obtain ⟨f0, f1⟩ := own_at HO.out 15 (by rw [HL.out]; omega)
    have hset := own_set HO.out 15 (Go.bits .xor .u8 ((shifted xs 1 16).getD 15 0) ((bitn xs 0 * 135 : Nat) : Int))
    have HS : As (Own (w2.setCell ⟨g, 15, none⟩ (.int .u8 (Go.bits .xor .u8 ((shifted xs 1 16).getD 15 0) 135))) w.heap.size 5 .u8 (.slice (some ⟨g, 0, none⟩) 16 c1) (dbl xs)) := ⟨by rw [hb] at hset; unfold dbl; rw [hb]; exact hset⟩
    rw [rd_nat] at f0
    obtain ⟨s0, s1⟩ := HB.out.getD 15
    generalize (shifted xs 1 16).getD 15 0 = sv at *
    clear hset hbl hb
    go_wp2
    go_ret
    exact ⟨_, rfl, HS.out, HC.out.setCell (p := ⟨g, 15, none⟩) _ (fun h => by exfalso; have h1 : g < w.heap.size := h; have := HG.out; omega)⟩
  · have hb0 : bitn xs 0 = 0 := by omega
    rw [hb0]
    have HD : As (shifted xs 1 16 = dbl xs) := ⟨by
      have hq := HB.out.getD 15
      have hl := HL.out
      unfold dbl
      rw [hb0]
      rw [show ((0 * 135 : Nat) : Int) = 0 from rfl, bx_zero _ hq]
      apply List.ext_getElem?
      intro j
      rw [List.getElem?_set]
      by_cases e : 15 = j
      · subst e
        rw [if_pos rfl, if_pos (by omega), List.getD_eq_getElem?_getD, List.getElem?_eq_getElem (by omega)]
        rfl
      · rw [if_neg e]⟩
    clear hbl hb hb0
    go_wp2
    go_ret
    have ho := HO.out
    rw [HD.out] at ho
    exact ⟨_, rfl, ho, HC.out⟩
/-- y into the last bytes of x. -/
def xorR (xs ys : List Int) : List Int := tab xs.length fun j => if xs.length - ys.length ≤ j then Go.bits .xor .u8 (xs.getD j 0) (ys.getD (j - (xs.length - ys.length)) 0) else xs.getD j 0
def xorRAt (xs ys : List Int) (k : Nat) : List Int := tab xs.length fun j => if xs.length - ys.length ≤ j ∧ j < xs.length - ys.length + k then Go.bits .xor .u8 (xs.getD j 0) (ys.getD (j - (xs.length - ys.length)) 0) else xs.getD j 0
theorem xorR_length (xs ys : List Int) : (xorR xs ys).length = xs.length := tab_length _ _
theorem xorR_byt {xs ys : List Int} (h : Byt xs) (h' : Byt ys) : Byt (xorR xs ys) := tab_byt fun i _ => by
  split
  · exact bx_range _ _ (h.getD i) (h'.getD _)
  · exact h.getD i
theorem xorRAt_zero (xs ys : List Int) : xorRAt xs ys 0 = xs := by
  conv => rhs; rw [eq_tab xs]
  exact tab_congr fun j _ => if_neg (by omega)
theorem xorRAt_end {xs ys : List Int} (h : ys.length ≤ xs.length) : xorRAt xs ys ys.length = xorR xs ys :=
  tab_congr fun j hj => by
    by_cases h1 : xs.length - ys.length ≤ j
    · rw [if_pos ⟨h1, by omega⟩, if_pos h1]
    · rw [if_neg (fun e => h1 e.1), if_neg h1]
theorem xorRAt_rd {xs ys : List Int} {k : Nat} (h : xs.length - ys.length + k < xs.length) : rd (xorRAt xs ys k) ((xs.length - ys.length + k : Nat) : Int) = xs.getD (xs.length - ys.length + k) 0 := by
  unfold xorRAt
  rw [rd_tab h, if_neg (by omega)]
theorem xorRAt_step (xs ys : List Int) (k : Nat) :
    (xorRAt xs ys k).set (xs.length - ys.length + k) (Go.bits .xor .u8 (xs.getD (xs.length - ys.length + k) 0) (ys.getD k 0)) = xorRAt xs ys (k + 1) := by
  unfold xorRAt
  rw [tab_set]
  refine tab_congr fun j hj => ?_
  by_cases e : j = xs.length - ys.length + k
  · rw [if_pos e, if_pos (by omega), e, show xs.length - ys.length + k - (xs.length - ys.length) = k from by omega]
  · rw [if_neg e]
    by_cases h3 : xs.length - ys.length ≤ j ∧ j < xs.length - ys.length + k
    · rw [if_pos h3, if_pos (by omega)]
    · rw [if_neg h3, if_neg (by omega)]
set_option maxRecDepth 100000 in
set_option maxHeartbeats 2000000 in
theorem rightXor_any (A : Option Addr) (n c : Nat) (xs : List Int) (B : Option Addr) (m d : Nat) (ys : List Int) (w : World) (hn : n = xs.length) (hm : m = ys.length) (hmn : m ≤ n) (rx : Rb w A xs) (ry : Rb w B ys) (bx : Byt xs) (hy : Byt ys) (h1 : 1 ≤ n) (hl : n ≤ 140737488351232) :
    Calls Try.prog 73 #[.slice A n c, .slice B m d] w (Gives NoB w (xorR xs ys)) := by
  have HN := As.mk hn
  have HM := As.mk hm
  have RX := As.mk rx
  have RY := As.mk ry
  have BX := As.mk bx
  have BY := As.mk hy
  obtain ⟨o, ho⟩ : ∃ o, n = o + m := ⟨n - m, by omega⟩
  have HO := As.mk ho
  have hsub : (n : Int) - (m : Int) = (o : Int) := by omega
  have hsubw : wrap64 ((n : Int) - (m : Int)) = (o : Int) := by unfold wrap64; omega
  clear rx ry bx hy hn hm ho
  go_enter Try.func73, Try.ntmps73
  go_wp2_with (first
    | ((with_reducible refine gate (N := 15) rfl ?_); refine wpList_make_k rfl _ 22 rfl 5 .u8 1 Try.underlying22 info8 (by decide) n _ rfl rfl (by omega) ?_
       intro w2 g2 HG2 ho2 hc2 hz2
       have hl2 : (List.replicate n (0 : Int)).length = n := List.length_replicate ..
       have O2 := As.mk ho2
       have C2 := As.mk hc2
       clear ho2 hc2 hz2)
    | ((with_reducible refine gate (N := 18) rfl ?_); refine wpList_copy_rk (et := 5) rfl _ _ 22 22 rfl w.heap.size 5 .u8 Try.underlying22 size8 g2 n (List.replicate n 0) ?ho (some ⟨g2, 0, none⟩) 0 n n ?h0 ?hd (fun _ => rfl) A xs c ?hs (RX.out.keep C2.out) ?_
       (case ho => rw [List.length_replicate]; exact O2.out)
       (case h0 => rw [List.length_replicate]; omega)
       (case hd => rfl)
       (case hs => rw [← HN.out]; rfl)
       intro w3 ho3 hg3
       have hsp : splice (List.replicate n (0 : Int)) 0 (xs.take n) = xs := by
         have := HN.out
         rw [List.take_of_length_le (by omega)]
         simp [splice, this]
       rw [hsp, List.length_replicate] at ho3
       have O3 := As.mk ho3
       have C3 : As (Chg NoB w w3) := ⟨C2.out.grown hg3 (fun b hb e => by injection e with e; have := own_blocks O2.out; omega)⟩
       clear ho3 hg3 hsp))
  have O4 : As (Own w3 w.heap.size 5 .u8 (.slice (some ⟨g2, 0, none⟩) n n) (xorRAt xs ys 0)) := ⟨by rw [xorRAt_zero]; exact O3.out⟩
  clear O2 C2 O3 hl2 hsub hsubw
  go_loopw [7] (fun i wr => ∃ k : Nat, k ≤ m ∧ i = .int .i64 k ∧ As (Own wr w.heap.size 5 .u8 (.slice (some ⟨g2, 0, none⟩) n n) (xorRAt xs ys k)) ∧ As (Chg NoB w wr)) (fun i _ => m - (intOf i).toNat)
  case atStart => exact ⟨0, Nat.zero_le _, rfl, O4, C3⟩
  case round =>
    clear O4 C3
    obtain ⟨k, hk, rfl, HW, HC⟩ := hrel
    have ho := HO.out
    by_cases hlt : k < m
    · obtain ⟨ad, rfl, hc⟩ := (RY.out.keep HC.out).at_ (k : Int) (by omega) (by have := HM.out; omega)
      rw [Int.toNat_natCast, rd_nat] at hc
      have hd : xs.length - ys.length = o := by have := HN.out; have := HM.out; omega
      have hset := own_set HW.out (o + k) (Go.bits .xor .u8 (xs.getD (o + k) 0) (ys.getD k 0))
      have hst := xorRAt_step xs ys k
      rw [hd] at hst
      rw [hst] at hset
      have HS := As.mk hset
      obtain ⟨f0, f1⟩ := own_at HW.out (o + k) (by rw [show (xorRAt xs ys k).length = xs.length from tab_length _ _, ← HN.out]; omega)
      have hrd := xorRAt_rd (xs := xs) (ys := ys) (k := k) (by have := HN.out; omega)
      rw [hd] at hrd
      rw [hrd] at f0
      obtain ⟨b0, b1⟩ := BX.out.getD (o + k)
      obtain ⟨b2, b3⟩ := BY.out.getD k
      generalize xs.getD (o + k) 0 = q at *
      generalize ys.getD k 0 = q2 at *
      obtain ⟨ok, hok⟩ : ∃ ok, ok = o + k := ⟨_, rfl⟩
      have hokn : ok < n := by omega
      have hoki : (ok : Int) < (n : Int) := by omega
      have hadd : (o : Int) + (k : Int) = (ok : Int) := by omega
      have hwr : IntKind.i64.wrap (ok : Int) = (ok : Int) := by simp [IntKind.wrap, IntKind.bits, IntKind.signed]; omega
      rw [← hok] at f0 f1 HS
      clear hset hst hrd hd ho hok
      go_wp2
      go_still_tail 12, (by kernel_rfl)
      change wpList _ _ _ _ _ (World.drew wr)
      go_wp2
      go_roundw
      case rel => exact ⟨k + 1, by omega, by go_num, HS, ⟨(HC.out.setCell (p := ⟨g2, ok, none⟩) _ (fun h => by exfalso; have h1 : g2 < w.heap.size := h; have := own_blocks HW.out; omega)).drew⟩⟩
      case measure => simp [intOf]; omega
    · obtain rfl : k = m := by omega
      clear ho
      go_wp2
      go_ret
      have h := HW.out
      rw [HM.out, xorRAt_end (by have := HN.out; have := HM.out; omega)] at h
      exact ⟨_, rfl, h, HC.out⟩
end Go.Proofs.Ythbgpbaneghmdaa
