/- The contract of io.ReadFull over a source, into the beginning of a greater row. -/
import Derived.Test.YthambncffcphkaaDoorReadPart
set_option linter.unusedVariables false
set_option linter.unusedSimpArgs false
namespace Go.Proofs.YthambncffcphkaaDoor
open Go.RowKit V
set_option maxHeartbeats 1000000 in
theorem readPart_any (et : TypeId) (base s gb N capN cap n : Nat) (xs zs : List Int) (sp : Int) (w : World) (a0 a1 : Addr) (hS : Sent w a0 a1) (hB : 0 < base ∧ 1 < base ∧ a0.block < base ∧ a1.block < base) (hs : Src w base s xs sp) (ho : Own w base et .u8 (.slice (some ⟨gb, 0, none⟩) N capN) zs) (hzn : N = zs.length) (hnN : n ≤ N) (hne : s ≠ gb) (hbs : base ≤ s) (hbg : base ≤ gb) (hnc : n ≤ cap) (hxl : xs.length ≤ 2097152) (hzl : N ≤ 1048576) :
    Calls Tryd.prog 24 #[.iface 58 (.pointer (some ⟨s, 0, none⟩)), .slice (some ⟨gb, 0, none⟩) n cap] w (FilledP et w base s gb N capN n xs zs sp a0 a1) := by
  have HR := As.mk (readAtLeastP_any et base s gb N capN cap n xs zs sp w a0 a1 hS hB hs ho hzn hnN hne hbs hbg hnc hxl hzl)
  clear hS hB hs ho hzn
  go_enter Tryd.func24, Tryd.ntmps24
  go_wp2_with fail
  refine HR.out.mono ?_
  rintro e w1 ⟨hc1, hm⟩
  have HC1 := As.mk hc1
  clear hc1
  rcases hm with ⟨h1, rfl, h3, h4⟩ | ⟨h1, he⟩
  · have H4 := As.mk (And.intro h1 (And.intro h3 h4))
    clear h1 h3 h4
    go_wp2_with fail
    go_ret2
    exact ⟨HC1.out, Or.inl ⟨H4.out.1, rfl, H4.out.2.1, H4.out.2.2⟩⟩
  · obtain ⟨ae, hae⟩ : ∃ ae, ae = if xs.length = 0 then a0 else a1 := ⟨_, rfl⟩
    obtain ⟨m, hm⟩ : ∃ m, m = xs.length := ⟨_, rfl⟩
    rw [← hae, ← hm] at he
    subst he
    have H1 : As (∀ w', Chg (fun b => b = s ∨ b = gb) w w' → FilledP et w base s gb N capN n xs zs sp a0 a1 (.returned (.tuple #[.int .i64 m, .iface 95 (.pointer (some ae))])) w') :=
      ⟨fun w' hc => ⟨hc, Or.inr ⟨h1, by rw [hae, hm]⟩⟩⟩
    clear h1 hae hm
    go_wp2_with fail
    go_ret2
    exact H1.out _ HC1.out
end Go.Proofs.YthambncffcphkaaDoor
