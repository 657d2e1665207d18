/- The contracts of nat.div, addVV, nat.add for numbers of at most one word. -/
import Derived.Test.YthnebljgnmggaaaDoorBgD
set_option linter.unusedVariables false
set_option linter.unusedSimpArgs false
namespace Go.Proofs.YthnebljgnmggaaaDoor
open Go.RowKit V
theorem Stq.lt {w : World} {base : Nat} {v : Value} (h : Stq w base v) : ∀ b, v.ownBlock = some b → base ≤ b ∧ b < w.heap.size := by
  intro b e
  rcases h with rfl | ⟨g, n, c, l, rfl, h2, h3, _⟩
  · cases e
  · have := own_slice e
    subst this
    exact ⟨h2, h3.lt⟩
theorem Stq.chg {w w' : World} {S : Nat → Prop} {base : Nat} {v : Value} (h : Stq w base v) (hc : Chg S w w') (hs : ∀ b, v.ownBlock = some b → ¬ S b) : Stq w' base v := by
  rcases h with rfl | ⟨g, n, c, l, rfl, h2, h3, h4⟩
  · exact .inl rfl
  · exact .inr ⟨g, n, c, l, rfl, h2, h3.chg hc (hs g rfl), h4⟩
/-- The quotient in a new room, the remainder in z2's. -/
def DivR (w : World) (base : Nat) (z2 : Value) (q r : Nat) (e : Ending) (w' : World) : Prop :=
  ∃ vq vr, e = .returned (.tuple #[vq, vr]) ∧ Nq w' base vq q ∧ Nq w' base vr r ∧ Chg (fun b => z2.ownBlock = some b) w w' ∧ (∀ b, vq.ownBlock = some b → w.heap.size ≤ b) ∧ (∀ b, vr.ownBlock = some b → z2.ownBlock = some b ∨ w.heap.size ≤ b)
set_option maxRecDepth 100000 in
set_option maxHeartbeats 1000000 in
theorem div_any {w : World} {base base' gv cv : Nat} {z2 u : Value} {lv : List Int} {x y : Nat} (hz : Stq w base z2) (hb : base ≤ w.heap.size) (hu : Nq w base' u x) (hB : Blk w gv 55 (nums .u64 lv)) (hl : lv.length = cv ∧ cv ≤ 16) (hc : 1 ≤ cv) (h0 : lv.getD 0 0 = (y : Int)) (hy : 2 ≤ y) (hy2 : y < 18446744073709551616) :
    Calls Tryd.prog 29 #[.slice none 0 0, .pointer none, z2, u, .slice (some ⟨gv, 0, none⟩) 1 cv] w (DivR w base z2 (x / y) (x % y)) := by
  obtain ⟨f0, _⟩ := word_at hB (i := 0) (by omega)
  rw [h0] at f0
  have HZ := As.mk hz
  have HB := As.mk hb
  have H := As.mk (divW_any (base := base) hb hu hy)
  have HR : As (x % y < 18446744073709551616) := ⟨Nat.lt_trans (Nat.mod_lt _ (by omega)) hy2⟩
  obtain ⟨q, hq⟩ : ∃ q, q = x / y := ⟨_, rfl⟩
  obtain ⟨r, hr⟩ : ∃ r, r = x % y := ⟨_, rfl⟩
  rw [← hq, ← hr] at H ⊢
  rw [← hr] at HR
  clear hz hb hB hl hc h0 hy hy2 hq hr hu
  go_enter_defers Tryd.func29, Tryd.ntmps29
  go_wp2_with fail
  refine H.out.mono ?_
  rintro e1 w1 ⟨vq, rfl, hn1, hc1, ho1⟩
  have N1 := As.mk (And.intro hn1 (And.intro hc1 ho1))
  clear hn1 hc1 ho1
  go_wp2_with fail
  refine (setWord_any (HZ.out.chg N1.out.2.1 (fun _ _ e => e)) (Nat.le_trans HB.out N1.out.2.1.size) HR.out).mono ?_
  rintro e2 w2 ⟨vr, rfl, hn2, hc2, ho2⟩
  have N2 := As.mk (And.intro hn2 (And.intro hc2 ho2))
  clear hn2 hc2 ho2
  go_wp2_with fail
  refine ⟨_, results_tmp2 rfl _ _ _, ?_⟩
  obtain ⟨hn1, hc1, ho1⟩ := N1.out
  obtain ⟨hn2, hc2, ho2⟩ := N2.out
  refine ⟨vq, vr, rfl, hn1.chg hc2 (fun b e h => ?_), hn2, (hc1.mono (fun _ _ e => e.elim)).trans hc2 (fun _ _ e => e), ho1, fun b e => ?_⟩
  · have := ho1 b e; have := (HZ.out.lt b h).2; omega
  · rcases ho2 b e with h | h
    · exact .inl h
    · exact .inr (Nat.le_trans hc1.size h)
set_option maxRecDepth 100000 in
set_option maxHeartbeats 1000000 in
theorem addVVg_any {w : World} {g c d f : Nat} {l : List Int} {X Y : Addr} {x y : Nat} (hB : Blk w g 55 (nums .u64 l)) (hl : 1 ≤ l.length) (hX : w.cell? X = some (.int .u64 (x : Int))) (hXs : X.add 0 = X) (hY : w.cell? Y = some (.int .u64 (y : Int))) (hYs : Y.add 0 = Y) (h : x + y < 18446744073709551616) :
    Calls Tryd.prog 51 #[.slice (some ⟨g, 0, none⟩) 1 c, .slice (some X) 1 d, .slice (some Y) 1 f] w (WordTo w g l (x + y) 0) := by
  obtain ⟨f0, f1⟩ := word_at hB (i := 0) (by omega)
  have B2 := fun q => word_set (hB.drewN q) 0 ((x + y : Nat) : Int)
  have H := As.mk (add_any x y h)
  obtain ⟨p, hpd⟩ : ∃ p, p = x + y := ⟨_, rfl⟩
  rw [← hpd] at H ⊢
  simp only [← hpd] at B2
  have B2 := As.mk B2
  clear hpd h hB hl
  go_enter Tryd.func51, Tryd.ntmps51
  go_wp2_with fail
  go_loopw [6, 25] (fun cv iv wr => (cv = .int .u64 0 ∧ iv = .int .i64 0 ∧ wr = w) ∨ (cv = .int .u64 0 ∧ iv = .int .i64 1 ∧ ∃ q, wr = (w.drewN q).setCell ⟨g, 0, none⟩ (.int .u64 (p : Int)))) (fun _ iv _ => 1 - (intOf iv).toNat)
  case atStart => exact .inl ⟨rfl, rfl, rfl⟩
  case round =>
    rcases hrel with ⟨rfl, rfl, rfl⟩ | ⟨rfl, rfl, q, rfl⟩
    · go_wp2_with fail
      go_quiet (with_reducible exact Calls.quiet_of_same (H.out _))
      go_wp2_with fail
      go_roundw
      case rel => exact .inr ⟨by first | rfl | trivial, by first | rfl | go_num | trivial, nq, by first | rfl | trivial⟩
      case measure => simp [intOf]
    · go_wp2_with fail
      go_ret
      exact ⟨rfl, B2.out q, ((Chg.refl _ _).drewN q).setCell (p := ⟨g, 0, none⟩) _ (fun _ => rfl)⟩
end Go.Proofs.YthnebljgnmggaaaDoor
