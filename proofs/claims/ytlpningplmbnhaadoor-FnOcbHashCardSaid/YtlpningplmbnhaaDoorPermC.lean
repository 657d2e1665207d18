/- The contracts of spec.permutes, spec.RightBlock, impl.permutation, (impl.Block).Right. -/
import Derived.Test.YtlpningplmbnhaaDoorPermP
import Derived.Test.YtlpningplmbnhaaDoorZc
import Derived.Test.YtlpningplmbnhaaDoorBase
import Derived.Test.YtlpningplmbnhaaDoorV3
import Derived.Deep.DeepCutAuto
set_option linter.unusedVariables false
set_option linter.unusedSimpArgs false
namespace Go.Proofs.YtlpningplmbnhaaDoor
open Go.RowKit V
set_option maxRecDepth 100000 in
set_option maxHeartbeats 1000000 in
theorem permutes_any (A : Option Addr) (n c v : Nat) (xs : List Int) (w : World) (hn : n = xs.length) (rx : Rb w A xs) (bx : Byt xs) (hv : v ≤ 2147483647) :
    Calls Tryd.prog 21 #[.slice A n c, .int .i64 v] w fun e w' => e = .returned (.bool (decide (Perms xs v))) ∧ w' = w := by
  have RX := As.mk rx
  have BX := As.mk bx
  have HN := As.mk hn
  by_cases hl : n = v
  · subst hl
    have hb : (((n : Nat) : Int) != (n : Int)) = false := by simp
    clear rx bx hn
    go_enter Tryd.func21, Tryd.ntmps21
    go_wp2
    go_loop [14] (fun i => ∃ k : Nat, k ≤ n ∧ i = .int .i64 k ∧ As (∀ u, u < k → cnt (u : Int) xs = 1)) (fun i => n - (intOf i).toNat)
    case atStart => exact ⟨0, Nat.zero_le _, rfl, ⟨fun u hu => by omega⟩⟩
    case round =>
      obtain ⟨k, hk, rfl, HT⟩ := hrel
      by_cases hlt : k < n
      · go_wp2
        go_loop [6, 19] (fun m i => ∃ j : Nat, j ≤ n ∧ i = .int .i64 j ∧ m = .int .i64 (cnt (k : Int) (xs.take j))) (fun m i => n - (intOf i).toNat)
        case atStart => exact ⟨0, Nat.zero_le _, rfl, by simp [cnt]⟩
        case round =>
          obtain ⟨j, hj, rfl, rfl⟩ := hrel
          have hle : cnt (k : Int) (xs.take j) ≤ j := Nat.le_trans (cnt_le _ _) (by rw [List.length_take]; omega)
          by_cases hlj : j < n
          · obtain ⟨ad, rfl, hc⟩ := RX.out.at_ (j : Int) (by omega) (by have := HN.out; omega)
            rw [Int.toNat_natCast] at hc
            have HS := As.mk (cnt_take_step (u := (k : Int)) (k := j) (xs := xs) (by have := HN.out; omega))
            have hg : xs.getD j 0 = rd xs (j : Int) := (rd_nat xs j).symm
            have HG := As.mk hg
            obtain ⟨b0, b1⟩ := BX.out.rd (j : Int)
            have HL := As.mk hle
            generalize hq : rd xs (j : Int) = q at *
            generalize hcq : cnt (k : Int) (xs.take j) = cq at *
            by_cases he : q = (k : Int)
            · have hbe : (q == (k : Int)) = true := by simp [he]
              have HE : As (cnt (k : Int) (xs.take (j + 1)) = cq + 1) := ⟨by rw [HS.out, HG.out, if_pos he]⟩
              clear hq hcq hle hg he
              go_wp2
              go_round
              case rel => exact ⟨j + 1, by omega, by go_num, by rw [HE.out]; have hL := HL.out; have hw : wrap64 ((cq : Int) + 1) = ((cq + 1 : Nat) : Int) := (by unfold wrap64; omega); rw [hw]⟩
              case measure => simp [intOf]; omega
            · have hbe : (q == (k : Int)) = false := by simp [he]
              have HE : As (cnt (k : Int) (xs.take (j + 1)) = cq) := ⟨by rw [HS.out, HG.out, if_neg he, Nat.add_zero]⟩
              clear hq hcq hle hg he
              go_wp2
              go_round
              case rel => exact ⟨j + 1, by omega, by go_num, by rw [HE.out]⟩
              case measure => simp [intOf]; omega
          · clear hle
            obtain rfl : j = n := by omega
            have HF : As (cnt (k : Int) (xs.take j) = cnt (k : Int) xs) := ⟨by rw [List.take_of_length_le (by have := HN.out; omega)]⟩
            rw [HF.out]
            have HL2 : As (cnt (k : Int) xs ≤ 9223372036854775807) := ⟨Nat.le_trans (cnt_le _ _) (by have := RX.out.1; omega)⟩
            generalize hcq : cnt (k : Int) xs = cq at *
            by_cases he : cq = 1
            · subst he
              have HA : As (∀ u, u < k + 1 → cnt (u : Int) xs = 1) := ⟨fun u hu => by
                by_cases e : u = k
                · subst e; exact hcq
                · exact HT.out u (by omega)⟩
              clear hcq
              go_wp2
              go_round
              case rel => exact ⟨k + 1, by omega, by go_num, HA⟩
              case measure => simp [intOf]; omega
            · have hbe : ((cq : Int) != 1) = true := by simp; omega
              have HA : As (¬ Perms xs j) := ⟨fun h => he (by rw [← hcq]; exact h.2 k hlt)⟩
              clear hcq he
              go_wp2
              go_ret
              exact ⟨by rw [decide_eq_false HA.out]; rfl, rfl⟩
      · obtain rfl : k = n := by omega
        have HA : As (Perms xs k) := ⟨⟨HN.out.symm, HT.out⟩⟩
        go_wp2
        go_ret
        exact ⟨by rw [decide_eq_true HA.out]; rfl, rfl⟩
  · have hb : (((n : Nat) : Int) != (v : Int)) = true := by simp; omega
    have HA : As (¬ Perms xs v) := ⟨fun h => hl (by rw [hn]; exact h.1)⟩
    clear rx bx hn hl
    go_enter Tryd.func21, Tryd.ntmps21
    go_wp2
    go_ret
    exact ⟨by rw [decide_eq_false HA.out]; rfl, rfl⟩
/-- Which numbers have been seen. -/
def seenAt (xs : List Int) (k : Nat) : List Value := (List.range 256).map fun (j : Nat) => .bool (decide (cnt (j : Int) (xs.take k) ≠ 0))
theorem seenAt_get {xs : List Int} {k j : Nat} (h : j < 256) : (seenAt xs k)[j]? = some (.bool (decide (cnt (j : Int) (xs.take k) ≠ 0))) := by simp [seenAt, h]
theorem seenAt_zero (xs : List Int) : seenAt xs 0 = List.replicate 256 (Value.bool false) := by
  apply List.ext_getElem?
  intro j
  by_cases hj : j < 256
  · rw [seenAt_get hj, List.getElem?_replicate, if_pos hj]; simp [cnt]
  · rw [List.getElem?_eq_none (by simp [seenAt]; omega), List.getElem?_eq_none (by rw [List.length_replicate]; omega)]
theorem seenAt_step {xs : List Int} {k q : Nat} (hk : k < xs.length) (hq : xs.getD k 0 = (q : Int)) (h : q < 256) : (seenAt xs k).set q (.bool true) = seenAt xs (k + 1) := by
  apply List.ext_getElem?
  intro j
  by_cases hj : j < 256
  · rw [seenAt_get hj, List.getElem?_set, cnt_take_step hk, hq]
    by_cases e : q = j
    · subst e
      simp [seenAt, h]
    · have e2 : ¬ ((q : Int) = (j : Int)) := by omega
      rw [if_neg e, seenAt_get hj, if_neg e2, Nat.add_zero]
  · rw [List.getElem?_eq_none (by simp [seenAt]; omega), List.getElem?_eq_none (by simp [seenAt]; omega)]
set_option maxRecDepth 100000 in
set_option maxHeartbeats 1000000 in
theorem permutation_yes (A : Option Addr) (n c : Nat) (xs : List Int) (w : World) (hp : Perms xs n) (rx : Rb w A xs) (hn : n ≤ 256) :
    Calls Tryd.prog 22 #[.slice A n c] w fun e w' => e = .returned (.bool true) ∧ Chg NoB w w' := by
  have RX := As.mk rx
  have HP := As.mk hp
  clear rx hp
  go_enter Tryd.func22, Tryd.ntmps22
  have HZ : As (Tryd.zeroCells63 = (seenAt xs 0).toArray) := ⟨by rw [seenAt_zero]; kernel_rfl⟩
  go_upto_region 2 with fail
  rw [HZ.out]
  have B0 := As.mk (Blk.new w 63 (seenAt xs 0))
  have C0 := As.mk ((Chg.refl NoB w).alloc (.cells (seenAt xs 0).toArray 63))
  obtain ⟨g, hg⟩ : ∃ g, g = w.heap.size := ⟨_, rfl⟩
  rw [← hg] at B0 ⊢
  have HG := As.mk hg
  clear HZ hg
  generalize w.alloc (.cells (seenAt xs 0).toArray 63) = w0 at *
  go_wp2
  go_loopw [8] (fun i wr => ∃ k : Nat, k ≤ n ∧ i = .int .i64 k ∧ As (Blk wr g 63 (seenAt xs k)) ∧ As (Chg NoB w wr)) (fun i _ => n - (intOf i).toNat)
  case atStart => exact ⟨0, Nat.zero_le _, rfl, B0, C0⟩
  case round =>
    obtain ⟨k, hk, rfl, HB, HC⟩ := hrel
    by_cases hlt : k < n
    · have hlen := HP.out.1
      obtain ⟨ad, rfl, hc⟩ := (RX.out.keep HC.out).at_ (k : Int) (by omega) (by omega)
      rw [Int.toNat_natCast] at hc
      have hr := rd_nat xs k
      obtain ⟨p0, p1⟩ := perms_at HP.out k hlt
      have hnew := perms_new HP.out k hlt
      obtain ⟨q, hq⟩ := Int.eq_ofNat_of_zero_le p0
      rw [hr, hq] at hc
      have HSt := As.mk (seenAt_step (xs := xs) (k := k) (q := q) (by omega) hq (by omega))
      rw [hq] at p1 hnew
      have p2 : q < 256 := by omega
      have hcell := HB.out.cell q
      rw [seenAt_get p2, decide_eq_false (fun h => h hnew)] at hcell
      have hfz := HB.out.frozen q
      have hset := HB.out.set_ q (.bool true)
      rw [HSt.out] at hset
      have HB2 := As.mk hset
      have p3 : ¬ ((n : Int) ≤ (q : Int)) := by omega
      have p4 : (q : Int) < 256 := by omega
      clear hlen hr p0 p1 hnew hq hset HSt
      go_wp2
      go_roundw
      case rel => exact ⟨k + 1, by omega, by go_num, HB2, ⟨HC.out.setCell (p := ⟨g, q, none⟩) _ (fun h => by exfalso; have h1 : g < w.heap.size := h; have := HG.out; omega)⟩⟩
      case measure => simp [intOf]; omega
    · obtain rfl : k = n := by omega
      go_wp2
      go_ret
      exact ⟨rfl, HC.out⟩
end Go.Proofs.YtlpningplmbnhaaDoor
