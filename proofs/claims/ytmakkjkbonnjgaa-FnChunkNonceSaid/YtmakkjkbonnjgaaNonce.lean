/- The walks of FnChunkNonce: the nonce of a chunk is the first one, with the number of the chunk exclusive-ored into its last eight bytes. -/
import Derived.Test.YtmakkjkbonnjgaaBrief
import Derived.Test.YtmakkjkbonnjgaaPure
set_option linter.unusedVariables false
set_option linter.unusedSimpArgs false
namespace Go.Proofs.Ytmakkjkbonnjgaa
open Go.RowKit V

/-- x with y exclusive-ored into its last places. -/
def xorR (m : Nat) (xs ys : List Int) : List Int := tab (m + 8) fun j => if m ≤ j then Go.bits .xor .u8 (xs.getD j 0) (ys.getD (j - m) 0) else xs.getD j 0

def nonceAt (m : Nat) (xs ys : List Int) (k : Nat) : List Int := tab (m + 8) fun j => if m ≤ j ∧ j < m + k then Go.bits .xor .u8 (xs.getD j 0) (ys.getD (j - m) 0) else xs.getD j 0
theorem nonceAt_step (m : Nat) (xs ys : List Int) (k : Nat) (hk : k < 8) (hx : xs.length = m + 8) :
    (nonceAt m xs ys k).set (k + m) (Go.bits .xor .u8 (rd (nonceAt m xs ys k) ((k + m : Nat) : Int)) (rd ys (k : Int))) = nonceAt m xs ys (k + 1) := by
  unfold nonceAt
  rw [rd_tab (by omega), tab_set, rd_nat]
  refine tab_congr fun j hj => ?_
  by_cases e : j = k + m
  · subst e
    rw [if_pos rfl, if_neg (by omega), if_pos (by omega), show k + m - m = k from by omega]
  · rw [if_neg e]
    by_cases h : m ≤ j ∧ j < m + k
    · rw [if_pos h, if_pos (by omega)]
    · rw [if_neg h, if_neg (by omega)]

set_option maxRecDepth 100000 in
set_option maxHeartbeats 1000000 in
theorem nextNonce_any (g m : Nat) (a0 a1 a3 a6 : Value) (A : Option Addr) (c : Nat) (xs : List Int) (B : Option Addr) (d : Nat) (ys : List Int) (w : World)
    (hg : Blk w g 90 [a0, a1, .slice A (m + 8) c, a3, .slice B 8 d, .int .u8 20, a6]) (hx : xs.length = m + 8) (hy : ys.length = 8) (rx : Rb w A xs) (ry : Rb w B ys) (hl : m ≤ 140737488351232) :
    Calls Try.prog 57 #[.pointer (some ⟨g, 0, none⟩)] w (Gives NoB w (xorR m xs ys)) := by
  have HX := As.mk hx
  have HY := As.mk hy
  have RX := As.mk rx
  have RY := As.mk ry
  have HG := As.mk hg
  have h2 := hg.cell 2
  have h4 := hg.cell 4
  have h5 := hg.cell 5
  simp only [List.getElem?_cons_zero, List.getElem?_cons_succ] at h2 h4 h5
  clear hx hy rx ry hg
  go_enter Try.func57, Try.ntmps57
  go_wp2_with (first
    | ((with_reducible refine gate (N := 19) rfl ?_); refine wpList_make_k rfl _ 22 rfl 5 .u8 1 Try.underlying22 info8 (by decide) (m + 8) _ rfl (by omega) (by omega) ?_; intro w1 g1 HG1 ho1 hc1 hz1; have HC1 := As.mk hc1; have HO1 := As.mk ho1; have hg1 := HG.out.chg hc1 (fun e => e); have h2 := hg1.cell 2; have h4 := hg1.cell 4; have h5 := hg1.cell 5; simp only [List.getElem?_cons_zero, List.getElem?_cons_succ] at h2 h4 h5; clear ho1 hc1 hz1 hg1)
    | ((with_reducible refine gate (N := 25) rfl ?_); refine wpList_copy_rk rfl _ _ 22 22 rfl w.heap.size 5 .u8 Try.underlying22 size8 g1 (m + 8) (List.replicate (m + 8) 0) (own_fix HO1.out) (some ⟨g1, 0, none⟩) 0 (m + 8) (m + 8) (by simp) rfl (fun _ => rfl) A xs c (by rw [HX.out]; rfl) (RX.out.keep HC1.out) ?_; intro w2 ho2 hg2; have hc2 := HC1.out.grown hg2 (fun k hk e => by have e2 : g1 = k := Option.some.inj e; have := HG1.out; omega); have HC2 := As.mk hc2; have HO2 := As.mk ho2; have hg3 := HG.out.chg hc2 (fun e => e); have h2 := hg3.cell 2; have h4 := hg3.cell 4; have h5 := hg3.cell 5; simp only [List.getElem?_cons_zero, List.getElem?_cons_succ] at h2 h4 h5; clear ho2 hg2 hc2 hg3))
  have hsp : splice (List.replicate (m + 8) (0 : Int)) 0 (xs.take (m + 8)) = nonceAt m xs ys 0 := by
    have e1 : splice (List.replicate (m + 8) (0 : Int)) 0 (xs.take (m + 8)) = xs := by
      rw [List.take_of_length_le (by rw [HX.out]; exact Nat.le_refl _)]
      simp [splice, HX.out]
    rw [e1]
    refine tab_ext HX.out fun j hj => ?_
    rw [if_neg (by omega)]
  have hown : Own w2 w.heap.size 5 .u8 (.slice (some ⟨g1, 0, none⟩) (m + 8) (m + 8)) (nonceAt m xs ys 0) := by
    have := HO2.out
    rw [hsp, List.length_replicate] at this
    exact this
  have HOW := As.mk hown
  clear hsp hown
  go_loopw [4] (fun i wr => ∃ k : Nat, k ≤ 8 ∧ i = .int .i64 k ∧ As (Own wr w.heap.size 5 .u8 (.slice (some ⟨g1, 0, none⟩) (m + 8) (m + 8)) (nonceAt m xs ys k)) ∧ As (Chg NoB w wr)) (fun i _ => 8 - (intOf i).toNat)
  case atStart => exact ⟨0, by omega, rfl, HOW, HC2⟩
  case round =>
    obtain ⟨k, hk, rfl, HO, HC⟩ := hrel
    have hgr := HG.out.chg HC.out (fun e => e)
    have h2 := hgr.cell 2
    have h4 := hgr.cell 4
    simp only [List.getElem?_cons_zero, List.getElem?_cons_succ] at h2 h4
    clear hgr
    by_cases hlt : k < 8
    · obtain ⟨j, hj⟩ : ∃ j, j = k + m := ⟨_, rfl⟩
      have hjl : j < m + 8 := by omega
      have hjl2 : (j : Int) < (m : Int) + 8 := by omega
      have hwr : IntKind.i64.wrap ((k : Int) + (m : Int)) = (j : Int) := by rw [IntKind.wrap_i64]; omega
      obtain ⟨c1, c2⟩ := own_at HO.out j (by unfold nonceAt; rw [tab_length]; omega)
      obtain ⟨ad, rfl, cy⟩ := (RY.out.keep HC.out).at_ (k : Int) (by omega) (by have := HY.out; omega)
      rw [Int.toNat_natCast] at cy
      generalize hq : rd (nonceAt m xs ys k) (j : Int) = q at *
      generalize hq2 : rd ys (k : Int) = q2 at *
      have hset := own_set HO.out j (Go.bits .xor .u8 q q2)
      rw [← hq, ← hq2, hj, nonceAt_step m xs ys k hlt HX.out, ← hj, hq, hq2] at hset
      have HS := As.mk hset
      have HB := As.mk (own_blocks HO.out).1
      clear hset hq hq2 hj
      go_wp2
      go_still_tail 15, (by kernel_rfl)
      change wpList _ _ _ _ _ (World.drew wr)
      go_wp2
      go_roundw
      case rel => exact ⟨k + 1, by omega, by go_num, HS, ⟨(HC.out.setCell (p := ⟨g1, j, none⟩) _ (fun h => by exfalso; have h1 : g1 < w.heap.size := h; have := HB.out; omega)).drew⟩⟩
      case measure => simp [intOf]; omega
    · obtain rfl : k = 8 := by omega
      go_wp2
      go_ret
      have e : nonceAt m xs ys 8 = xorR m xs ys := by
        unfold nonceAt xorR
        refine tab_congr fun j hj => ?_
        by_cases h : m ≤ j
        · rw [if_pos ⟨h, by omega⟩, if_pos h]
        · rw [if_neg (by omega), if_neg h]
      have ho := HO.out
      rw [e] at ho
      have hl2 : (xorR m xs ys).length = m + 8 := tab_length _ _
      exact ⟨_, rfl, ho, HC.out⟩

set_option maxRecDepth 100000 in
set_option maxHeartbeats 1000000 in
theorem zzNextNonce_any (m : Nat) (A : Option Addr) (c : Nat) (xs : List Int) (B : Option Addr) (d : Nat) (ys : List Int) (w : World) (hx : xs.length = m + 8) (hy : ys.length = 8) (rx : Rb w A xs) (ry : Rb w B ys) (hl : m ≤ 140737488351232) :
    Calls Try.prog 40 #[.slice A (m + 8) c, .slice B 8 d] w (Gives NoB w (xorR m xs ys)) := by
  have HX := As.mk hx
  have HY := As.mk hy
  have RX := As.mk rx
  have RY := As.mk ry
  clear hx hy rx ry
  go_enter Try.func40, Try.ntmps40
  go_wp2_with fail
  refine (nextNonce_any w.heap.size m _ _ _ _ A c xs B d ys _ (Blk.new w _ _) HX.out HY.out (RX.out.alloc _) (RY.out.alloc _) hl).mono ?_
  rintro e w1 ⟨v, rfl, ho, hc⟩
  have HO := As.mk ho
  have HC := As.mk hc
  clear ho hc
  go_wp2_with fail
  go_ret
  exact ⟨v, rfl, own_lower HO.out ((Chg.refl NoB w).alloc _).size, ((Chg.refl NoB w).alloc _).trans HC.out (fun _ _ e => e)⟩

/-- A row of its own, and true. -/
def GivesOk (S : Nat → Prop) (w : World) (xs : List Int) (e : Ending) (w' : World) : Prop :=
  ∃ v, e = .returned (.tuple #[v, .bool true]) ∧ Own w' w.heap.size 5 .u8 v xs ∧ Chg S w w'

set_option maxRecDepth 100000 in
set_option maxHeartbeats 1000000 in
theorem chunkNonce_any (n m : Nat) (A : Option Addr) (c : Nat) (xs : List Int) (B : Option Addr) (d : Nat) (ys : List Int) (w : World) (hn : n = m + 8) (hx : xs.length = n) (hy : ys.length = 8) (rx : Rb w A xs) (ry : Rb w B ys) (hl : m ≤ 140737488351232) :
    Calls Try.prog 19 #[.slice A n c, .slice B 8 d] w (GivesOk NoB w (xorR m xs ys)) := by
  subst hn
  have HX := As.mk hx
  have HY := As.mk hy
  have RX := As.mk rx
  have RY := As.mk ry
  clear hx hy rx ry
  go_enter Try.func19, Try.ntmps19
  go_wp2_with fail
  refine (zzNextNonce_any m A c xs B d ys _ HX.out HY.out RX.out RY.out hl).mono ?_
  rintro e w1 ⟨v, rfl, ho, hc⟩
  have HO := As.mk ho
  have HC := As.mk hc
  clear ho hc
  go_wp2_with fail
  go_ret2
  exact ⟨v, rfl, HO.out, HC.out⟩
theorem xorR_eq (m : Nat) (xs ys : List Int) (hx : xs.length = m + 8) (hy : ys.length = 8) : xs.take m ++ xorL (xs.drop m) ys = xorR m xs ys := by
  unfold xorR
  refine tab_ext (by simp [xorL_length, hx]) fun j hj => ?_
  have hl : (xs.take m).length = m := by rw [List.length_take]; omega
  by_cases h : m ≤ j
  · rw [if_pos h, List.getD_eq_getElem?_getD, List.getElem?_append_right (by omega), hl]
    unfold xorL
    rw [tab_get (by rw [List.length_drop]; omega), if_pos (by omega)]
    simp only [Option.getD_some, List.getD_eq_getElem?_getD, List.getElem?_drop]
    rw [show m + (j - m) = j from by omega]
  · rw [if_neg h, List.getD_eq_getElem?_getD, List.getElem?_append_left (by omega), List.getElem?_take, if_pos (by omega), List.getD_eq_getElem?_getD]
end Go.Proofs.Ytmakkjkbonnjgaa
