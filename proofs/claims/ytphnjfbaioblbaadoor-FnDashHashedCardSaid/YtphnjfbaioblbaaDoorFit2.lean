/- The contract of laws.zzFits2 (XFeed's, alone). -/
import Derived.Test.YtphnjfbaioblbaaDoorRwsB
set_option linter.unusedVariables false
set_option linter.unusedSimpArgs false
namespace Go.Proofs.YtphnjfbaioblbaaDoor
open Go.RowKit V
def Fits2 (n : Nat) (vs : List Sl) : Prop := n ≤ 2147483647 ∧ ∀ v ∈ vs, v.2.1 ≤ 2147483647
instance (n : Nat) (vs : List Sl) : Decidable (Fits2 n vs) := inferInstanceAs (Decidable (n ≤ 2147483647 ∧ ∀ v ∈ vs, v.2.1 ≤ 2147483647))
set_option maxHeartbeats 400000 in
theorem fits2_all (A : Option Addr) (n c : Nat) (vs : List Sl) (w : World) (hn : n = vs.length) (hr : Rs w A vs) :
    Calls Tryd.prog 4 #[.slice A n c] w fun e w' => e = .returned (.bool (decide (Fits2 n vs))) ∧ w' = w := by
  have HR := As.mk hr
  have hm : n ≤ 9223372036854775806 := by have := hr.1; omega
  have HN := As.mk hn
  clear hr hn
  go_enter Tryd.func4, Tryd.ntmps4
  by_cases hbig : 2147483647 < n
  · have hb2 : (2147483647 : Int) < (n : Int) := by omega
    go_wp2
    go_ret
    exact ⟨by rw [decide_eq_false (fun h : Fits2 n vs => by have := h.1; omega)]; rfl, rfl⟩
  · have hb2 : ¬ (2147483647 : Int) < (n : Int) := by omega
    go_wp2
    go_loop [10] (fun i => ∃ k : Nat, k ≤ n ∧ i = .int .i64 k ∧ As (∀ j (h : j < vs.length), j < k → vs[j].2.1 ≤ 2147483647)) (fun i => n - (intOf i).toNat)
    case atStart => exact ⟨0, Nat.zero_le _, rfl, ⟨fun j h h' => by omega⟩⟩
    case round =>
      obtain ⟨k, hk, rfl, HT⟩ := hrel
      by_cases hlt : k < n
      · have hkv : k < vs.length := by have := HN.out; omega
        obtain ⟨ad, rfl, hc⟩ := HR.out.at_ k hkv
        have HA := As.mk HT.out
        clear HT
        generalize hq : vs[k].2.1 = q at *
        by_cases hle : 2147483647 < q
        · have hle2 : (2147483647 : Int) < (q : Int) := by omega
          have HB : As (¬ Fits2 n vs) := ⟨fun h => by have := h.2 _ (List.getElem_mem hkv); omega⟩
          clear hq
          go_wp2
          go_ret
          exact ⟨by rw [decide_eq_false HB.out]; rfl, rfl⟩
        · have hle2 : ¬ (2147483647 : Int) < (q : Int) := by omega
          have HB : As (∀ j (h : j < vs.length), j < k + 1 → vs[j].2.1 ≤ 2147483647) := ⟨fun j h h' => by
            by_cases e : j = k
            · subst e; omega
            · exact HA.out j h (by omega)⟩
          clear hq
          go_wp2
          go_round
          case rel => exact ⟨k + 1, by omega, by go_num, HB⟩
          case measure => simp [intOf]; omega
      · have HB : As (Fits2 n vs) := ⟨by omega, fun v hv => by
          obtain ⟨j, hj, rfl⟩ := List.mem_iff_getElem.1 hv
          exact HT.out j hj (by have := HN.out; omega)⟩
        go_wp2
        go_ret
        exact ⟨by rw [decide_eq_true HB.out]; rfl, rfl⟩
end Go.Proofs.YtphnjfbaioblbaaDoor
