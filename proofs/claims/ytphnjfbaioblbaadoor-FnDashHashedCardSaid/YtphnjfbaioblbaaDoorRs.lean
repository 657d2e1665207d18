/- Words for slices of slices (the words of XBrief alone, for a seat without laws.brief). -/
import Derived.Test.YtphnjfbaioblbaaDoorBase
import Derived.Test.YtphnjfbaioblbaaDoorV3
set_option linter.unusedVariables false
set_option linter.unusedSimpArgs false
namespace Go.Proofs.YtphnjfbaioblbaaDoor.V
open Go.RowKit
/-- A slice of slices, as its cells say: each one's address, length and capacity. -/
def Rs (w : World) (A : Option Addr) (vs : List (Option Addr × Nat × Nat)) : Prop :=
  vs.length ≤ 9223372036854775806 ∧ (0 < vs.length → ∃ ad, A = some ad ∧ ad.block < w.heap.size ∧ ∀ j (h : j < vs.length), w.cell? (ad.add j) = some (.slice vs[j].1 vs[j].2.1 vs[j].2.2))
theorem Rs.at_ {w : World} {A : Option Addr} {vs : List (Option Addr × Nat × Nat)} (h : Rs w A vs) (j : Nat) (hj : j < vs.length) : ∃ ad, A = some ad ∧ w.cell? (ad.add j) = some (.slice vs[j].1 vs[j].2.1 vs[j].2.2) := by
  obtain ⟨ad, e, _, hc⟩ := h.2 (by omega)
  exact ⟨ad, e, hc j hj⟩
theorem Rs.chg {S : Nat → Prop} {w w' : World} {A : Option Addr} {vs : List (Option Addr × Nat × Nat)} (h : Rs w A vs) (hc : Chg S w w') (hs : ∀ ad, A = some ad → ad.block < w.heap.size → ¬ S ad.block) : Rs w' A vs :=
  ⟨h.1, fun hn => by
    obtain ⟨ad, e, hb, hcell⟩ := h.2 hn
    exact ⟨ad, e, Nat.lt_of_lt_of_le hb hc.size, fun j hj => (hc.cell (p := ad.add j) (by rw [add_block]; exact hb) (by rw [add_block]; exact hs ad e hb)).trans (hcell j hj)⟩⟩
theorem Rs.one (w : World) (t : TypeId) (A : Option Addr) (n c : Nat) : Rs (w.alloc (.cells #[.slice A n c] t)) (some ⟨w.heap.size, 0, none⟩) [(A, n, c)] :=
  ⟨by simp, fun _ => ⟨_, rfl, by simp, fun j hj => by
    have h0 : j = 0 := by simpa using hj
    subst h0
    rw [add_lit0]
    exact (Blk.new w t [.slice A n c]).cell 0⟩⟩
end Go.Proofs.YtphnjfbaioblbaaDoor.V
