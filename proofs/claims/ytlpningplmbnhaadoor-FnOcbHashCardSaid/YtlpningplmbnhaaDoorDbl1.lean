/- The contract of spec.Doubled. -/
import Derived.Test.YtlpningplmbnhaaDoorGfn
import Derived.Test.YtlpningplmbnhaaDoorShift2
set_option linter.unusedVariables false
set_option linter.unusedSimpArgs false
namespace Go.Proofs.YtlpningplmbnhaaDoor
open Go.RowKit V
set_option maxRecDepth 100000 in
set_option maxHeartbeats 1000000 in
theorem doubled_any (A : Option Addr) (c : Nat) (xs : List Int) (w : World) (hn : xs.length = 16) (rx : Rb w A xs) (bx : Byt xs) :
    Calls Tryd.prog 25 #[.slice A 16 c] w (Gives NoB w (dbl xs)) := by
  have HN : As (16 = xs.length) := ⟨hn.symm⟩
  have RX := As.mk rx
  have BX := As.mk bx
  have HL : As ((shifted xs 1 16).length = 16) := ⟨tab_length _ _⟩
  have HB := As.mk (shifted_byt xs 1 16)
  clear hn rx bx
  go_enter Tryd.func25, Tryd.ntmps25
  go_wp2_with fail
  refine (specShifted_any A 16 c xs 1 16 w HN.out RX.out BX.out (by omega) (by omega) (by omega)).mono ?_
  rintro e1 w1 ⟨v1, rfl, ho1, hc1⟩
  obtain ⟨g, c1, rfl, _, hg1, hg2⟩ := own_form_pos ho1 (by rw [HL.out]; omega)
  rw [HL.out] at ho1 ⊢
  have HO := As.mk ho1
  have HC := As.mk hc1
  have HG := As.mk hg1
  clear ho1 hc1 hg1 hg2
  go_wp2_with fail
  refine (bitAt_any A 16 c xs 0 w1 HN.out (RX.out.keep HC.out) BX.out (by omega) (by omega)).mono ?_
  rintro e2 w2 ⟨rfl, rfl⟩
  have hbl := bitn_lt xs 0
  by_cases hb : bitn xs 0 = 1
  · rw [hb]
    obtain ⟨f0, f1⟩ := own_at HO.out 15 (by rw [HL.out]; omega)
    have hset := own_set HO.out 15 (Go.bits .xor .u8 ((shifted xs 1 16).getD 15 0) ((bitn xs 0 * 135 : Nat) : Int))
    have HS : As (Own (w2.setCell ⟨g, 15, none⟩ (.int .u8 (Go.bits .xor .u8 ((shifted xs 1 16).getD 15 0) 135))) w.heap.size 5 .u8 (.slice (some ⟨g, 0, none⟩) 16 c1) (dbl xs)) := ⟨by rw [hb] at hset; unfold dbl; rw [hb]; exact hset⟩
    rw [rd_nat] at f0
    obtain ⟨s0, s1⟩ := HB.out.getD 15
    generalize (shifted xs 1 16).getD 15 0 = sv at *
    clear hset hbl hb
    go_wp2
    go_ret
    exact ⟨_, rfl, HS.out, HC.out.setCell (p := ⟨g, 15, none⟩) _ (fun h => by exfalso; have h1 : g < w.heap.size := h; have := HG.out; omega)⟩
  · have hb0 : bitn xs 0 = 0 := by omega
    rw [hb0]
    have HD : As (shifted xs 1 16 = dbl xs) := ⟨by
      have hq := HB.out.getD 15
      have hl := HL.out
      unfold dbl
      rw [hb0]
      rw [show ((0 * 135 : Nat) : Int) = 0 from rfl, bx_zero _ hq]
      apply List.ext_getElem?
      intro j
      rw [List.getElem?_set]
      by_cases e : 15 = j
      · subst e
        rw [if_pos rfl, if_pos (by omega), List.getD_eq_getElem?_getD, List.getElem?_eq_getElem (by omega)]
        rfl
      · rw [if_neg e]⟩
    clear hbl hb hb0
    go_wp2
    go_ret
    have ho := HO.out
    rw [HD.out] at ho
    exact ⟨_, rfl, ho, HC.out⟩
end Go.Proofs.YtlpningplmbnhaaDoor
