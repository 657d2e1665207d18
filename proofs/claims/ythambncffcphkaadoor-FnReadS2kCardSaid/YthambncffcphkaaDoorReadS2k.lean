/- The contracts of laws.isS2k and impl.ReadS2k. -/
import Derived.Test.YthambncffcphkaaDoorParse
import Derived.Test.YthambncffcphkaaDoorStretch2
import Derived.Test.YthambncffcphkaaDoorStrIs
import Derived.Test.YthambncffcphkaaDoorEndAny
set_option linter.unusedVariables false
set_option linter.unusedSimpArgs false
namespace Go.Proofs.YthambncffcphkaaDoor
open Go.RowKit V
set_option maxRecDepth 100000 in
set_option maxHeartbeats 2000000 in
theorem isS2k_yes (k h cnt p y r : Int) (A1 : Option Addr) (n1 c1 : Nat) (A2 : Option Addr) (n2 c2 : Nat) (salt : List Int) (w : World) (h1 : n1 = salt.length) (h2 : n2 = salt.length) (hr1 : Rb w A1 salt) (hr2 : Rb w A2 salt) (k0 : 0 ≤ k) (k1 : k ≤ 255) (hh0 : 0 ≤ h) (hh1 : h ≤ 255) :
    Calls Tryd.prog 11 #[.agg #[.int .u8 k, .int .u8 h, .slice A1 n1 c1, .int .u8 cnt, .int .u8 p, .int .u8 y, .int .u8 r], .agg #[.int .i64 k, .int .i64 h, .slice A2 n2 c2, .int .u8 cnt, .int .u8 p, .int .u8 y, .int .u8 r]] w fun e w' => e = .returned (.bool true) ∧ Chg NoB w w' := by
  have HS := As.mk (fun w' (hc : Chg NoB w w') => same_yes A1 n1 c1 salt A2 n2 c2 w' h1 h2 (hr1.keep hc) (hr2.keep hc))
  clear h1 h2 hr1 hr2
  by_cases hk : k = 4
  · subst hk
    go_enter Tryd.func11, Tryd.ntmps11
    go_wp2_with fail
    refine (HS.out _ (by repeat (first | exact Chg.refl _ _ | (with_reducible apply Chg.alloc)))).mono ?_
    rintro e w1 ⟨rfl, nn, rfl⟩
    go_wp2_with fail
    go_ret
    exact ⟨rfl, (((Chg.refl NoB w).alloc _).alloc _).drewN nn⟩
  · have b4 : (k == 4) = false := by simpa using hk
    clear hk
    go_enter Tryd.func11, Tryd.ntmps11
    go_wp2_with fail
    refine (HS.out _ (by repeat (first | exact Chg.refl _ _ | (with_reducible apply Chg.alloc)))).mono ?_
    rintro e w1 ⟨rfl, nn, rfl⟩
    go_wp2_with fail
    go_ret
    exact ⟨rfl, (((Chg.refl NoB w).alloc _).alloc _).drewN nn⟩
def saltL (k : Nat) (ps : List Int) : List Int := if k = 0 then [] else if k = 4 then (ps.drop 2).take 16 else (ps.drop 2).take 8
theorem salt_reads {w : World} {base g : Nat} {et : TypeId} {ps : List Int} (h : Own w base et .u8 (.slice (some ⟨g, 0, none⟩) 22 22) ps) (k : Nat) : ∃ (A : Option Addr) (n c : Nat), saltV g k = .slice A n c ∧ n = (saltL k ps).length ∧ n ≤ 16 ∧ Rb w A (saltL k ps) := by
  have hl := own_len h
  have hr := (own_reads h).drop_ 2
  rw [show ((some ⟨g, 0, none⟩ : Option Addr).map (·.add 2)) = some ⟨g, 2, none⟩ from congrArg some (add_lit0 _ _)] at hr
  unfold saltV saltL
  by_cases h0 : k = 0
  · rw [if_pos h0, if_pos h0]; exact ⟨none, 0, 0, rfl, rfl, by omega, Rk.none_⟩
  · rw [if_neg h0, if_neg h0]
    by_cases h4 : k = 4
    · rw [if_pos h4, if_pos h4]; exact ⟨_, 16, 16, rfl, by rw [List.length_take, List.length_drop]; omega, by omega, hr.take_ 16⟩
    · rw [if_neg h4, if_neg h4]; exact ⟨_, 8, 16, rfl, by rw [List.length_take, List.length_drop]; omega, by omega, hr.take_ 8⟩
/-- What impl.ReadS2k answers. -/
def S2kOf (w : World) (k h : Int) (salt : List Int) (cnt p y r : Int) (size : Nat) (e : Ending) (w' : World) : Prop :=
  Chg NoB w w' ∧ ∃ (A : Option Addr) (n c : Nat), n = salt.length ∧ e = .returned (.tuple #[.agg #[.int .u8 k, .int .u8 h, .slice A n c, .int .u8 cnt, .int .u8 p, .int .u8 y, .int .u8 r], .int .i64 size, .int .i64 0]) ∧ Rb w' A salt
def S2kBad (w : World) (e : Ending) (w' : World) : Prop := Chg NoB w w' ∧ ∃ (h : Int), h ≠ 0 ∧ e = .returned (.tuple #[.agg #[.int .u8 0, .int .u8 0, .slice none 0 0, .int .u8 0, .int .u8 0, .int .u8 0, .int .u8 0], .int .i64 0, .int .i64 h])
/-- The world in which impl.ReadS2k calls the parser. -/
def W2 (A : Option Addr) (n c : Nat) (sp : Int) (w : World) : World := (w.alloc (.cells #[.int .u8 0, .int .u8 0, .slice none 0 0, .int .u8 0, .int .u8 0, .int .u8 0, .int .u8 0] 37)).alloc (.cells #[.slice A n c, .int .i64 sp] 60)
theorem w2_src {A : Option Addr} {n c : Nat} {sp : Int} {w : World} {xs : List Int} (hn : n = xs.length) (hnc : n ≤ c) (hx : Rb w A xs) : Src (W2 A n c sp w) w.heap.size (w.heap.size + 1) xs sp ∧ Chg NoB w (W2 A n c sp w) ∧ Blk (W2 A n c sp w) w.heap.size 37 [.int .u8 0, .int .u8 0, .slice none 0 0, .int .u8 0, .int .u8 0, .int .u8 0, .int .u8 0] ∧ (W2 A n c sp w).heap.size = w.heap.size + 2 := by
  have hc0 : Chg NoB w (W2 A n c sp w) := ((Chg.refl NoB w).alloc _).alloc _
  refine ⟨⟨A, c, ?_, by omega, hx.keep hc0, fun ad e hp => ?_⟩, hc0, (Blk.new w _ [.int .u8 0, .int .u8 0, .slice none 0 0, .int .u8 0, .int .u8 0, .int .u8 0, .int .u8 0]).alloc _, ?_⟩
  · have h := Blk.new (w.alloc (.cells #[.int .u8 0, .int .u8 0, .slice none 0 0, .int .u8 0, .int .u8 0, .int .u8 0, .int .u8 0] 37)) 60 [.slice A n c, .int .i64 sp]
    rw [show (w.alloc (.cells #[.int .u8 0, .int .u8 0, .slice none 0 0, .int .u8 0, .int .u8 0, .int .u8 0, .int .u8 0] 37)).heap.size = w.heap.size + 1 from Array.size_push _] at h
    rw [← hn]
    exact h
  · obtain ⟨ad2, e2, h2, _⟩ := hx.2 hp
    rw [e] at e2
    injection e2 with e2
    subst e2
    exact h2
  · show (World.alloc _ _).heap.size = _
    rw [show ∀ (u : World) (o : Obj), (u.alloc o).heap.size = u.heap.size + 1 from fun u o => Array.size_push _, show ∀ (u : World) (o : Obj), (u.alloc o).heap.size = u.heap.size + 1 from fun u o => Array.size_push _]
set_option maxRecDepth 100000 in
set_option maxHeartbeats 2000000 in
theorem readS2k_bad (A : Option Addr) (n c : Nat) (xs : List Int) (sp : Int) (w : World) (a0 a1 : Addr) (hS : Sent w a0 a1) (hn : n = xs.length) (hnc : n ≤ c) (hx : Rb w A xs)
    (hp : Calls Tryd.prog 19 #[.iface 58 (.pointer (some ⟨w.heap.size + 1, 0, none⟩))] (W2 A n c sp w) (ParseErr (W2 A n c sp w) (w.heap.size + 1) a0 a1)) :
    Calls Tryd.prog 10 #[.slice A n c, .int .i64 sp] w (S2kBad w) := by
  have HP := As.mk hp
  obtain ⟨_, hc0, hb0, _⟩ := w2_src (sp := sp) hn hnc hx
  have HC0 := As.mk hc0
  have HB0 := As.mk hb0
  have HS := As.mk hS
  clear hp hc0 hb0 hS hn hx
  unfold W2 at HP HC0 HB0
  go_enter Tryd.func10, Tryd.ntmps10
  go_wp2_with fail
  refine HP.out.mono ?_
  rintro e w1 ⟨hc1, v, er, rfl, her⟩
  have HC1 : As (Chg NoB w w1) := ⟨HC0.out.trans hc1 (fun i hi e => by omega)⟩
  have b1 := HB0.out.chg hc1 (fun e => by omega)
  have B1 := As.mk b1
  have x0 := b1.cell 0
  have x1 := b1.cell 1
  have x2 := b1.cell 2
  have x3 := b1.cell 3
  have x4 := b1.cell 4
  have x5 := b1.cell 5
  have x6 := b1.cell 6
  have y0 := b1.frozen 0
  have y1 := b1.frozen 1
  have y2 := b1.frozen 2
  have y3 := b1.frozen 3
  have y4 := b1.frozen 4
  have y5 := b1.frozen 5
  have y6 := b1.frozen 6
  simp only [List.getElem?_cons_zero, List.getElem?_cons_succ] at x0 x1 x2 x3 x4 x5 x6
  have HE := As.mk her
  clear hc1 b1 her
  obtain ⟨u, er', rfl⟩ : ∃ (u : TypeId) (x : Value), er = .iface u x := by
    rcases HE.out with h | h | ⟨t, h⟩ <;> exact ⟨_, _, h⟩
  go_wp2_with fail
  refine (end_err _ _ a0 a1 (HS.out.keep HC1.out) HE.out).mono ?_
  rintro e w2 ⟨hh, hne, rfl, rfl⟩
  have HNE := As.mk hne
  clear hne
  go_wp2_with fail
  refine bodyPost_ret (v := .tuple #[.agg #[.int .u8 0, .int .u8 0, .slice none 0 0, .int .u8 0, .int .u8 0, .int .u8 0, .int .u8 0], .int .i64 0, .int .i64 hh]) ?_ rfl ⟨by repeat (first | (with_reducible exact HC1.out) | (refine Chg.setCell ?_ _ (fun h => absurd h (Nat.lt_irrefl _)))), hh, HNE.out, rfl⟩
  · rw [results_cell_tmp2 rfl]
    go_simp
end Go.Proofs.YthambncffcphkaaDoor
