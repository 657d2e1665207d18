/- The contract of spec.Message. -/
import Derived.Test.YtllcfihbepmphaaSeqP
import Derived.Test.YtllcfihbepmphaaProg
import Derived.Test.YtllcfihbepmphaaV2
import Derived.Test.YtllcfihbepmphaaBitsP
set_option linter.unusedVariables false
set_option linter.unusedSimpArgs false
namespace Go.Proofs.Ytllcfihbepmphaa
open Go.RowKit V
theorem sizeI : (Try.prog.info? 3).map (·.size) = some 1 := by kernel_rfl
/-- What Message answers: what is left, whether it is a message; both together: whether the whole is one. -/
def Msg (b0 : Bool) (w : World) (e : Ending) (w' : World) : Prop :=
  ∃ A n c b, e = .returned (.tuple #[.slice A n c, .bool b]) ∧ (b && n == 0) = b0 ∧ w' = w
theorem sigs_step {j : Nat} {l : List Int} {x : Int} {r : List Int} (h : l = x :: r) : sigs (j + 1) l = (x == 1 && sigs j r) := by subst h; rfl
set_option maxRecDepth 100000 in
set_option maxHeartbeats 2000000 in
theorem message_any (l : List Int) (n c : Nat) (A : Option Addr) (w : World) (hn : n = l.length) (hnc : n ≤ c) (hx : Rk .i64 w A l) (hlen : n ≤ 10000) :
    Calls Try.prog 9 #[.slice A n c] w (Msg (isMsg 0 l) w) := by
  have HX := As.mk hx
  have HN := As.mk hn
  clear hx hn
  go_enter Try.func9, Try.ntmps9
  go_wp2_with fail
  go_loopw [2, 3, 4, 5, 6, 9] (fun v2 v3 o _ _ i w' => ∃ k m : Nat, k ≤ n ∧ m ≤ k ∧ i = .int .i64 k ∧ o = .int .i64 m ∧ As (isMsg m (l.drop k) = isMsg 0 l) ∧ w' = w) (fun _ _ _ _ _ i _ => n - (intOf i).toNat)
  case atStart => exact ⟨0, 0, Nat.zero_le _, Nat.le_refl _, rfl, rfl, ⟨by simp⟩, rfl⟩
  case round =>
    obtain ⟨k, m, hk, hm, rfl, rfl, HM, hw⟩ := hrel
    subst hw
    by_cases hlt : k < n
    · obtain ⟨a0, hA, hc0⟩ := HX.out.at_ (k : Int) (by omega) (by have := HN.out; omega)
      simp only [Int.toNat_natCast] at hc0
      have HD : As (l.drop k = rd l (k : Int) :: l.drop (k + 1)) := ⟨by
        have h : k < l.length := by have := HN.out; omega
        rw [List.drop_eq_getElem_cons h]
        congr 1
        simp [rd, List.getD_eq_getElem?_getD, List.getElem?_eq_getElem h]⟩
      generalize rd l (k : Int) = x at *
      by_cases h0 : x = 0
      · subst h0
        have HS : As (sigs m (l.drop (k + 1)) = isMsg 0 l) := ⟨by rw [← HM.out, HD.out]; simp [isMsg]⟩
        obtain ⟨A2, hcut, _, hA2⟩ := cut_from (P := Try.prog) 23 3 Try.underlying23 sizeI A n c ((k : Int) + 1) .i64 (n - (k + 1)) (c - (k + 1)) (by omega) (by omega) (by omega) hnc
        have HA2 := As.mk (hA2 wr .i64 l HN.out.symm HX.out)
        rw [show ((k : Int) + 1).toNat = k + 1 from by omega] at HA2
        clear hA2 HM HD
        subst hA
        go_wp2_with fail
        go_loopw [2, 3, 4] (fun v2 _ o w' => ∃ (A' : Option Addr) (n' c' j : Nat), v2 = .slice A' n' c' ∧ o = .int .i64 j ∧ j ≤ m ∧ n' ≤ n ∧ n' ≤ c' ∧ As (∃ r : List Int, n' = r.length ∧ Rk .i64 wr A' r ∧ sigs j r = isMsg 0 l) ∧ w' = wr) (fun _ _ o _ => (intOf o).toNat)
        case atStart => exact ⟨A2, n - (k + 1), c - (k + 1), m, rfl, rfl, Nat.le_refl _, by omega, by omega, ⟨_, by rw [List.length_drop]; have := HN.out; omega, HA2.out, HS.out⟩, rfl⟩
        case round =>
          obtain ⟨A', n', c', j, rfl, rfl, hj, hn', hnc', HR, hw⟩ := hrel
          subst hw
          by_cases hj0 : j = 0
          · subst hj0
            go_wp2_with fail
            go_ret2
            obtain ⟨r, hr1, _, hr3⟩ := HR.out
            refine ⟨_, _, _, true, rfl, ?_, rfl⟩
            rw [← hr3, hr1]
            cases r <;> simp [sigs]
          · obtain ⟨j', rfl⟩ : ∃ j', j = j' + 1 := ⟨j - 1, by omega⟩
            by_cases hz : n' = 0
            · subst hz
              have HF : As (isMsg 0 l = false) := ⟨by
                obtain ⟨r, hr1, _, hr3⟩ := HR.out
                rw [← hr3, List.eq_nil_of_length_eq_zero hr1.symm]; simp [sigs]⟩
              clear HR
              go_wp2_with fail
              go_ret2
              exact ⟨_, _, _, false, rfl, by rw [HF.out]; rfl, rfl⟩
            · obtain ⟨r, hr1, hr2, hr3⟩ := HR.out
              obtain ⟨a1, hA1, hc1⟩ := hr2.at_ 0 (by omega) (by omega)
              simp only [Int.toNat_zero, Addr.add, if_true] at hc1
              obtain ⟨A3, hcut3, _, hA3⟩ := cut_from (P := Try.prog) 23 3 Try.underlying23 sizeI A' n' c' 1 .i64 (n' - 1) (c' - 1) (by omega) (by omega) (by omega) hnc'
              have HA3 := As.mk (hA3 _ .i64 r hr1.symm hr2)
              have hx : r = rd r 0 :: r.drop 1 := by
                cases r with
                | nil => simp at hr1; omega
                | cons y r => simp [rd]
              have HX1 := As.mk hx
              have hne : ((n' : Int) == 0) = false := by simp; omega
              have hlen1 : n' - 1 = (r.drop 1).length := by rw [List.length_drop]; omega
              have HL1 := As.mk hlen1
              have HS1 : As (isMsg 0 l = (rd r 0 == 1 && sigs j' (r.drop 1))) := ⟨by rw [← hr3, sigs_step hx]⟩
              generalize rd r 0 = x at *
              subst hA1
              clear HR hr1 hr2 hr3 hA3 hx hlen1
              by_cases hx1 : x = 1
              · subst hx1
                have HR2 : As (∃ r' : List Int, n' - 1 = r'.length ∧ Rk .i64 wr A3 r' ∧ sigs j' r' = isMsg 0 l) := ⟨_, HL1.out, HA3.out, by rw [HS1.out]; simp⟩
                go_wp2_with fail
                go_roundw
                case rel => exact ⟨A3, n' - 1, c' - 1, j', rfl, by go_num, by omega, by omega, by omega, HR2, trivial⟩
                case measure => simp [intOf]
              · have hxb : (x != 1) = true := by simpa using hx1
                have HF : As (isMsg 0 l = false) := ⟨by rw [HS1.out]; simp [hx1]⟩
                clear hx1
                go_wp2_with fail
                go_ret2
                exact ⟨_, _, _, false, rfl, by rw [HF.out]; rfl, rfl⟩
      · by_cases h1 : x = 1
        · subst h1
          have HM2 : As (isMsg m (l.drop (k + 1)) = isMsg 0 l) := ⟨by rw [← HM.out, HD.out]; simp [isMsg]⟩
          subst hA
          clear HM HD
          go_wp2_with fail
          go_roundw
          case rel => exact ⟨k + 1, m, by omega, by omega, by go_num, rfl, HM2, trivial⟩
          case measure => simp [intOf]; omega
        · by_cases h2 : x = 2
          · subst h2
            have HM2 : As (isMsg (m + 1) (l.drop (k + 1)) = isMsg 0 l) := ⟨by rw [← HM.out, HD.out]; simp [isMsg]⟩
            subst hA
            clear HM HD
            go_wp2_with fail
            go_roundw
            case rel => exact ⟨k + 1, m + 1, by omega, by omega, by go_num, by go_num, HM2, trivial⟩
            case measure => simp [intOf]; omega
          · have HF : As (isMsg 0 l = false) := ⟨by rw [← HM.out, HD.out]; simp [isMsg, h0, h1, h2]⟩
            subst hA
            clear HM HD
            go_wp2_with fail
            go_ret2
            exact ⟨_, _, _, false, rfl, by rw [HF.out]; rfl, rfl⟩
    · obtain rfl : k = n := by omega
      have HF : As (isMsg 0 l = false) := ⟨by rw [← HM.out, List.drop_of_length_le (by have := HN.out; omega)]; simp [isMsg]⟩
      clear HM
      go_wp2_with fail
      go_ret2
      exact ⟨_, _, _, false, rfl, by rw [HF.out]; rfl, rfl⟩
end Go.Proofs.Ytllcfihbepmphaa
