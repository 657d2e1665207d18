/- The contract of impl.Sequence, at symbols 0, 1, 2 with the end (6) behind them. -/
import Derived.Test.YtllcfihbepmphaaSeq4
set_option linter.unusedVariables false
set_option linter.unusedSimpArgs false
namespace Go.Proofs.Ytllcfihbepmphaa
open Go.RowKit V
def SeqInv (l : List Int) (base g : Nat) (k : Nat) (w : World) : Prop :=
  (k ≤ l.length ∧ ∃ p, Ph.run (.ahead 0) (l.take k) = some p ∧ open_ p ≤ k ∧ Ver w base g NoB (stk p) (stq p)) ∨ (k = l.length + 1 ∧ Ph.run (.ahead 0) l = some (.behind 0) ∧ Ver w base g NoB [] 5)
def Took (l : List Int) (w : World) (e : Ending) (w' : World) : Prop :=
  (∃ t : Nat, e = .returned (.tuple #[.int .i64 t, .bool (isMsg 0 l)]) ∧ (isMsg 0 l = true → t = l.length + 1)) ∧ Chg NoB w w'
theorem open_next {p q : Ph} {x : Int} {k : Nat} (h : p.next x = some q) (hk : open_ p ≤ k) : open_ q ≤ k + 1 := by
  cases p with
  | ahead n =>
    simp only [Ph.next] at h
    split at h
    · injection h with h; subst h; simp [open_] at hk ⊢; omega
    · split at h
      · injection h with h; subst h; simp [open_] at hk ⊢; omega
      · split at h
        · injection h with h; subst h; simp [open_] at hk ⊢; omega
        · cases h
  | behind n =>
    cases n with
    | zero => simp [Ph.next] at h
    | succ n =>
      simp only [Ph.next] at h
      split at h
      · injection h with h; subst h; simp [open_] at hk ⊢; omega
      · cases h
theorem run_none_msg {l : List Int} {k : Nat} {p : Ph} {x : Int} (h1 : Ph.run (.ahead 0) (l.take k) = some p) (h2 : l.take (k + 1) = l.take k ++ [x]) (h3 : p.next x = none) : isMsg 0 l = false := by
  rw [run_msg]
  have h4 : Ph.run (.ahead 0) l = none := by
    rw [← List.take_append_drop (k + 1) l, Ph.run_append, h2, Ph.run_append, h1]
    simp [Ph.run_one, h3]
  simp [h4]
theorem and7N : ∀ t : Nat, t < 8 → bits BinOp.and .i64 (t : Int) 7 = (t : Int) := by decide +kernel
set_option maxRecDepth 100000 in
set_option maxHeartbeats 2000000 in
theorem sequence_any (l : List Int) (n c : Nat) (A : Option Addr) (w : World) (hn : n = l.length + 1) (hx : Rk .i64 w A (l ++ [6])) (hl : ∀ x ∈ l, x = 0 ∨ x = 1 ∨ x = 2) (hlen : l.length ≤ 10000) :
    Calls Try.prog 10 #[.slice A n c] w (Took l w) := by
  have HX := As.mk hx
  have HL := As.mk hl
  have HN := As.mk hn
  have hn1 : n ≤ 10001 := by omega
  clear hx hl hn
  go_enter Try.func10, Try.ntmps10
  go_wp2_with fail
  refine (newVerifier_any _).mono ?_
  rintro e w1 ⟨rfl, hv1, hc1⟩
  have HV1 := As.mk hv1
  have HC1 := As.mk hc1
  clear hv1 hc1
  go_wp2_with fail
  go_loopw [5, 6, 7, 11] (fun _ _ _ i w' => ∃ k : Nat, k ≤ n ∧ i = .int .i64 k ∧ As (SeqInv l w.heap.size (w.heap.size + 1) k w') ∧ As (Chg NoB w w')) (fun _ _ _ i _ => n - (intOf i).toNat)
  case atStart => exact ⟨0, Nat.zero_le _, rfl, ⟨Or.inl ⟨Nat.zero_le _, .ahead 0, rfl, Nat.zero_le _, HV1.out⟩⟩, HC1⟩
  case round =>
    obtain ⟨k, hk, rfl, HI, HC⟩ := hrel
    have hbs : w.heap.size ≤ wr.heap.size := HC.out.size
    by_cases hlt : k < n
    · obtain ⟨a0, hA, hc0⟩ := (HX.out.keep HC.out).at_ (k : Int) (by omega) (by have := HN.out; simp; omega)
      subst hA
      simp only [Int.toNat_natCast] at hc0
      rcases HI.out with ⟨hkl, p, hp1, hp2, hp3⟩ | ⟨hkl, _⟩
      · have HP1 := As.mk hp1
        have HP3 := As.mk hp3
        have hop : open_ p ≤ 1048000 := by have := HN.out; omega
        by_cases hkm : k < l.length
        · have hrd : rd (l ++ [6]) (k : Int) = rd l (k : Int) := by
            unfold rd
            rw [Int.toNat_natCast, List.getD_eq_getElem?_getD, List.getD_eq_getElem?_getD, List.getElem?_append_left hkm]
          have hmem : rd l (k : Int) ∈ l := by
            unfold rd
            rw [Int.toNat_natCast, List.getD_eq_getElem?_getD, List.getElem?_eq_getElem hkm]
            exact List.getElem_mem hkm
          have hx3 := HL.out _ hmem
          have HT := As.mk (take_snoc hkm)
          rw [hrd] at hc0
          clear hmem hrd hp1 hp3 HI
          generalize rd l (k : Int) = x at *
          have hand : bits BinOp.and .i64 x 7 = x := by rcases hx3 with rfl | rfl | rfl <;> decide +kernel
          have hx0 : 0 ≤ x := by omega
          have hx2 : x ≤ 2 := by omega
          have HX3 := As.mk hx3
          have HKM := As.mk hkm
          clear hx3 hkm
          go_wp2_with fail
          refine (next_ph w.heap.size (w.heap.size + 1) p x _ HP3.out hbs hop HX3.out).mono ?_
          rintro e w2 ⟨hc2, hm⟩
          have HC2 : As (Chg NoB w w2) := ⟨HC.out.trans hc2 (fun i hi e => by rcases e with e | e <;> omega)⟩
          rcases hnx : p.next x with _ | p'
          · rw [hnx] at hm
            obtain ⟨⟨s, rfl⟩, hst⟩ := hm
            have HST := As.mk hst
            have HF : As (isMsg 0 l = false) := ⟨run_none_msg HP1.out HT.out hnx⟩
            clear hc2 hst hnx
            go_wp2_with fail
            refine (valid_no w.heap.size (w.heap.size + 1) _ HST.out).mono ?_
            rintro e w3 ⟨rfl, rfl⟩
            go_wp2_with fail
            go_ret2
            exact ⟨⟨k, by rw [HF.out]; rfl, fun h => by rw [HF.out] at h; cases h⟩, HC2.out⟩
          · rw [hnx] at hm
            obtain ⟨rfl, hv2⟩ := hm
            have HI2 : As (SeqInv l w.heap.size (w.heap.size + 1) (k + 1) w2) := ⟨Or.inl ⟨HKM.out, p', by rw [HT.out, Ph.run_append, HP1.out]; simpa [Ph.run_one] using hnx, open_next hnx hp2, hv2⟩⟩
            clear hc2 hv2 hnx
            go_wp2_with fail
            go_roundw
            case rel => exact ⟨k + 1, by omega, by go_num, HI2, HC2⟩
            case measure => simp [intOf]; omega
        · have hke : k = l.length := by omega
          have hrd : rd (l ++ [6]) (k : Int) = 6 := by
            unfold rd
            rw [Int.toNat_natCast, List.getD_eq_getElem?_getD, hke]
            simp
          rw [hrd] at hc0
          have htk : l.take k = l := by rw [hke]; exact List.take_length
          rw [htk] at HP1
          have hand : bits BinOp.and .i64 6 7 = 6 := by decide +kernel
          have HKE := As.mk hke
          clear hrd hp1 hp3 HI hke htk hkm hkl
          by_cases hpe : p = .behind 0
          · subst hpe
            go_wp2_with fail
            refine (next_end_good w.heap.size (w.heap.size + 1) _ HP3.out hbs).mono ?_
            rintro e w2 ⟨rfl, hv2, hc2⟩
            have HC2 : As (Chg NoB w w2) := ⟨HC.out.trans hc2 (fun i hi e => by rcases e with e | e <;> omega)⟩
            have HI2 : As (SeqInv l w.heap.size (w.heap.size + 1) (k + 1) w2) := ⟨Or.inr ⟨by rw [HKE.out], HP1.out, hv2⟩⟩
            clear hc2 hv2
            go_wp2_with fail
            go_roundw
            case rel => exact ⟨k + 1, by omega, by go_num, HI2, HC2⟩
            case measure => simp [intOf]; omega
          · have HF : As (isMsg 0 l = false) := ⟨by rw [run_msg, HP1.out]; simp [hpe]⟩
            have HPE := As.mk hpe
            clear hpe
            go_wp2_with fail
            refine (next_end_bad w.heap.size (w.heap.size + 1) p _ HP3.out hbs hop HPE.out).mono ?_
            rintro e w2 ⟨hc2, ⟨s, rfl⟩, hst⟩
            have HC2 : As (Chg NoB w w2) := ⟨HC.out.trans hc2 (fun i hi e => by rcases e with e | e <;> omega)⟩
            have HST := As.mk hst
            clear hc2 hst
            go_wp2_with fail
            refine (valid_no w.heap.size (w.heap.size + 1) _ HST.out).mono ?_
            rintro e w3 ⟨rfl, rfl⟩
            go_wp2_with fail
            go_ret2
            exact ⟨⟨k, by rw [HF.out]; rfl, fun h => by rw [HF.out] at h; cases h⟩, HC2.out⟩
      · have := HN.out; omega
    · obtain rfl : k = n := by omega
      rcases HI.out with ⟨hkl, _⟩ | ⟨hke, hr, hv⟩
      · have := HN.out; omega
      · have HV := As.mk hv
        have HTR : As (isMsg 0 l = true) := ⟨by rw [run_msg, hr]; simp⟩
        clear hr hv HI hke
        go_wp2_with fail
        refine (valid_yes w.heap.size (w.heap.size + 1) _ HV.out).mono ?_
        rintro e w3 ⟨rfl, rfl⟩
        go_wp2_with fail
        go_ret2
        exact ⟨⟨k, by rw [HTR.out]; rfl, fun _ => HN.out⟩, HC.out⟩
end Go.Proofs.Ytllcfihbepmphaa
