/- The contracts of nat.mulAddWW, sqr, mul, set for numbers of at most one word. -/
import Derived.Test.YthnebljgnmggaaaDoorBgM
import Derived.Defers
set_option linter.unusedVariables false
set_option linter.unusedSimpArgs false
namespace Go.Proofs.YthnebljgnmggaaaDoor
open Go.RowKit V
theorem own_slice {g n c b : Nat} (e : (Value.slice (some ⟨g, 0, none⟩) n c).ownBlock = some b) : g = b := by injection e
set_option maxRecDepth 100000 in
set_option maxHeartbeats 1000000 in
theorem mulAddWW_any {w : World} {base g c : Nat} {z : Value} {l : List Int} {x y : Nat} (hz : Stq w base z) (hb : base ≤ w.heap.size) (hB : Blk w g 55 (nums .u64 l)) (hl : l.length = c ∧ c ≤ 16) (hc : 1 ≤ c) (h0 : l.getD 0 0 = (x : Int)) (hx : x < 4294967296) (hy : y < 4294967296) (hy1 : 1 ≤ y) :
    Calls Tryd.prog 42 #[z, .slice (some ⟨g, 0, none⟩) 1 c, .int .u64 y, .int .u64 0] w (GivesN w base z (x * y)) := by
  have HZ := As.mk hz
  have HB := As.mk (And.intro hb (And.intro hB (And.intro hl (And.intro hc h0))))
  have hp := mul32_lt hx hy
  have hy0 : ((y : Int) == 0) = false := by simp; omega
  have HX := As.mk (And.intro hx (And.intro hy hp))
  clear hz hb hB hl hc h0 hx hy hp hy1
  go_enter Tryd.func42, Tryd.ntmps42
  go_wp2_with fail
  refine (make_any (n := 2) HZ.out HB.out.1 (by omega) (by omega)).mono ?_
  rintro e1 w1 ⟨g1, c1, l1, rfl, hg1, hB1, hl1, hc1, hch1, ho1⟩
  have H1 := As.mk (And.intro hg1 (And.intro hB1 (And.intro hl1 (And.intro hc1 (And.intro hch1 ho1)))))
  have hci : (1 : Int) ≤ (c1 : Int) := by omega
  have hci2 : 1 ≤ c1 := by omega
  clear hg1 hB1 hl1 hc1 hch1 ho1
  go_wp2_with fail
  have hX : w1.cell? ⟨g, 0, none⟩ = some (.int .u64 (x : Int)) := by
    have h := (word_at (HB.out.2.1.chg H1.out.2.2.2.2.1 (fun e => e)) (i := 0) (by have := HB.out.2.2; omega)).1
    rw [HB.out.2.2.2.2] at h
    exact h
  refine (mulAddVWW_any (g := g1) (X := ⟨g, 0, none⟩) H1.out.2.1 (by have := H1.out.2.2.1; omega) hX (add_lit0 _ _) HX.out.1 HX.out.2.1 (by have := HX.out.2.2; omega)).mono ?_
  rintro e2 w2 ⟨rfl, hB2, hc2⟩
  rw [Nat.add_zero] at hB2
  have hll : (l1.set 0 ((x * y : Nat) : Int)).length = c1 := by rw [List.length_set]; exact H1.out.2.2.1.1
  obtain ⟨f1, f2⟩ := word_at hB2 (i := 1) (by rw [hll]; exact H1.out.2.2.2.1)
  have B3 := As.mk (word_set hB2 1 0)
  have HLL := As.mk hll
  have C2 := As.mk hc2
  have hci4 : (1 : Int) < 2 := by omega
  clear hX hB2 hc2 hll
  go_wp2_with fail
  refine (norm_any (base := base) (x := x * y) (k := 2) H1.out.1 B3.out ⟨by rw [List.length_set]; exact HLL.out, H1.out.2.2.1.2⟩ H1.out.2.2.2.1 (.inr ⟨rfl, ?a1⟩) HX.out.2.2 ?a0).mono ?_
  case a1 => rw [List.getD_eq_getElem?_getD, List.getElem?_set_self (by rw [HLL.out]; exact H1.out.2.2.2.1)]; rfl
  case a0 => rw [List.getD_eq_getElem?_getD, List.getElem?_set_ne (by omega), List.getElem?_set_self (by rw [H1.out.2.2.1.1]; exact hci2)]; rfl
  rintro e3 w3 ⟨n3, rfl, hn3, rfl⟩
  have N3 := As.mk hn3
  clear hn3
  go_wp2_with fail
  go_ret
  refine ⟨_, rfl, N3.out, ?_, fun b e => by have := own_slice e; subst this; exact H1.out.2.2.2.2.2⟩
  have ch := H1.out.2.2.2.2.1
  refine ((ch.mono (fun _ _ e => e.elim)).trans C2.out (fun b hb e => ?_)).setCell (p := ⟨g1, 1, none⟩) _ (fun hlt => ?_)
  · rcases H1.out.2.2.2.2.2 with h | h
    · rw [e]; exact h
    · omega
  · rcases H1.out.2.2.2.2.2 with h | h
    · exact h
    · exfalso; have h2 : g1 < w.heap.size := hlt; omega
end Go.Proofs.YthnebljgnmggaaaDoor
