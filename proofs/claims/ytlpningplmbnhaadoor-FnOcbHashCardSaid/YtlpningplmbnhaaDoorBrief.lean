/- The contract of laws.brief: none of some slices is longer than 4096. -/
import Derived.Test.YtlpningplmbnhaaDoorBase
import Derived.Test.YtlpningplmbnhaaDoorV3
set_option linter.unusedVariables false
set_option linter.unusedSimpArgs false
namespace Go.Proofs.YtlpningplmbnhaaDoor.V
open Go.RowKit
/-- A slice of slices, as its cells say: each one's address, length and capacity. -/
def Rs (w : World) (A : Option Addr) (vs : List (Option Addr × Nat × Nat)) : Prop :=
  vs.length ≤ 9223372036854775806 ∧ (0 < vs.length → ∃ ad, A = some ad ∧ ad.block < w.heap.size ∧ ∀ j (h : j < vs.length), w.cell? (ad.add j) = some (.slice vs[j].1 vs[j].2.1 vs[j].2.2))
theorem Rs.at_ {w : World} {A : Option Addr} {vs : List (Option Addr × Nat × Nat)} (h : Rs w A vs) (j : Nat) (hj : j < vs.length) : ∃ ad, A = some ad ∧ w.cell? (ad.add j) = some (.slice vs[j].1 vs[j].2.1 vs[j].2.2) := by
  obtain ⟨ad, e, _, hc⟩ := h.2 (by omega)
  exact ⟨ad, e, hc j hj⟩
theorem Rs.chg {S : Nat → Prop} {w w' : World} {A : Option Addr} {vs : List (Option Addr × Nat × Nat)} (h : Rs w A vs) (hc : Chg S w w') (hs : ∀ ad, A = some ad → ad.block < w.heap.size → ¬ S ad.block) : Rs w' A vs :=
  ⟨h.1, fun hn => by
    obtain ⟨ad, e, hb, hcell⟩ := h.2 hn
    exact ⟨ad, e, Nat.lt_of_lt_of_le hb hc.size, fun j hj => (hc.cell (p := ad.add j) (by rw [add_block]; exact hb) (by rw [add_block]; exact hs ad e hb)).trans (hcell j hj)⟩⟩
theorem Rs.one (w : World) (t : TypeId) (A : Option Addr) (n c : Nat) : Rs (w.alloc (.cells #[.slice A n c] t)) (some ⟨w.heap.size, 0, none⟩) [(A, n, c)] :=
  ⟨by simp, fun _ => ⟨_, rfl, by simp, fun j hj => by
    have h0 : j = 0 := by simpa using hj
    subst h0
    rw [add_lit0]
    exact (Blk.new w t [.slice A n c]).cell 0⟩⟩
end Go.Proofs.YtlpningplmbnhaaDoor.V
namespace Go.Proofs.YtlpningplmbnhaaDoor
open Go.RowKit V
set_option maxHeartbeats 400000 in
theorem brief_any (A : Option Addr) (n c : Nat) (vs : List (Option Addr × Nat × Nat)) (w : World) (hn : n = vs.length) (hr : Rs w A vs) :
    Calls Tryd.prog 6 #[.slice A n c] w fun e w' => e = .returned (.bool (decide (∀ v ∈ vs, v.2.1 ≤ 4096))) ∧ w' = w := by
  have HR := As.mk hr
  have hm : n ≤ 9223372036854775806 := by have := hr.1; omega
  have HN := As.mk hn
  clear hr hn
  go_enter Tryd.func6, Tryd.ntmps6
  go_wp2
  go_loop [3] (fun i => ∃ k : Nat, k ≤ n ∧ i = .int .i64 k ∧ As (∀ j (h : j < vs.length), j < k → vs[j].2.1 ≤ 4096)) (fun i => n - (intOf i).toNat)
  case atStart => exact ⟨0, Nat.zero_le _, rfl, ⟨fun j h h' => by omega⟩⟩
  case round =>
    obtain ⟨k, hk, rfl, HT⟩ := hrel
    by_cases hlt : k < n
    · have hkv : k < vs.length := by have := HN.out; omega
      obtain ⟨ad, rfl, hc⟩ := HR.out.at_ k hkv
      have HA := As.mk HT.out
      clear HT
      generalize hq : vs[k].2.1 = q at *
      by_cases hle : q ≤ 4096
      · have HB : As (∀ j (h : j < vs.length), j < k + 1 → vs[j].2.1 ≤ 4096) := ⟨fun j h h' => by
          by_cases e : j = k
          · subst e; omega
          · exact HA.out j h (by omega)⟩
        clear hq
        go_wp2
        go_round
        case rel => exact ⟨k + 1, by omega, by go_num, HB⟩
        case measure => simp [intOf]; omega
      · have HB : As (¬ ∀ v ∈ vs, v.2.1 ≤ 4096) := ⟨fun h => by have := h _ (List.getElem_mem hkv); omega⟩
        clear hq
        go_wp2
        go_ret
        exact ⟨by rw [decide_eq_false HB.out]; rfl, rfl⟩
    · have HB : As (∀ v ∈ vs, v.2.1 ≤ 4096) := ⟨fun v hv => by
        obtain ⟨j, hj, rfl⟩ := List.mem_iff_getElem.1 hv
        exact HT.out j hj (by have := HN.out; omega)⟩
      go_wp2
      go_ret
      exact ⟨by rw [decide_eq_true HB.out]; rfl, rfl⟩
/-- .. of one slice. -/
theorem brief_one (A : Option Addr) (n c : Nat) (B : Nat) (m : Nat) (t : TypeId) (w : World) (hB : B = w.heap.size) :
    Calls Tryd.prog 6 #[.slice (some ⟨B, 0, none⟩) 1 m] (w.alloc (.cells #[.slice A n c] t)) fun e w' => e = .returned (.bool (decide (n ≤ 4096))) ∧ w' = w.alloc (.cells #[.slice A n c] t) := by
  subst hB
  refine (brief_any _ 1 m [(A, n, c)] _ rfl (Rs.one w t A n c)).mono fun e w' ⟨he, hw⟩ => ⟨?_, hw⟩
  rw [he]
  simp
end Go.Proofs.YtlpningplmbnhaaDoor
