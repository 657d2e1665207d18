/- What the two tables of math/bits hold when a call begins; a world that holds them. -/
import Derived.Test.YtlpningplmbnhaaDoorTz
import Derived.Test.YtlpningplmbnhaaDoorRows
import Derived.ChangeSame
import Derived.ChangeVars
import Derived.JoinedOf
import Derived.RowKit
import Derived.RowKitTokens
import Derived.LaidLaws
import Derived.LaidEql
import Derived.Stop.ErrReads
import Derived.WideKeyArr2
set_option linter.unusedVariables false
set_option linter.unusedSimpArgs false
namespace Go.Proofs.YtlpningplmbnhaaDoor
open Go.ChangeShapes Go.WideShapes Go.RowKit V
theorem own : ownKnob Tryd.prog.godebug = none := by kernel_rfl
theorem laidOut : laidOutB Tryd.prog = true := by kernel_rfl
theorem mapM_at {α β : Type} (f : α → Option β) : ∀ (l : List α) (ys : List β), l.mapM f = some ys → ∀ (i : Nat) (x : α), l[i]? = some x → ∃ y, ys[i]? = some y ∧ f x = some y
  | [], ys, h, i, x, hx => by simp at hx
  | a :: l, ys, h, i, x, hx => by
    rw [List.mapM_cons] at h
    simp only [Option.bind_eq_bind, Option.bind_eq_some_iff, Option.pure_def, Option.some.injEq] at h
    obtain ⟨b, hb, bs, hbs, rfl⟩ := h
    cases i with
    | zero => simp at hx; subst hx; exact ⟨b, by simp, hb⟩
    | succ i => simpa using mapM_at f l bs hbs i x (by simpa using hx)
/-- A table of bytes that reads as a list has its numbers in its cells. -/
theorem table_of_trod {H : Type} {enc : TypeId × Value → H} {P : Program} {W : World} {sp : Nat → Bool} {held : Bool} {t e : TypeId} {n : Nat} (hu : P.underlying t = some (.array n e)) (he : P.underlying e = some (.int .u8)) (hc : P.cellsOf e = 1)
    (fuel : Nat) (cs : List Value) (ls : List Int) (hn : ls.length = n) (p : List MemPlace) (h : DataW.trod enc P W 0 sp held fuel t cs = some (.agg (ls.map fun x => .lit (.int .u8 x)), p)) :
    ∀ j, j < n → cs[j]? = some (.int .u8 (ls.getD j 0)) := by
  cases fuel with
  | zero => simp [DataW.trod] at h
  | succ m =>
    rw [DataW.trod_step] at h
    unfold DataW.trodStep at h
    simp only [hu] at h
    split at h
    · simp only [Option.map_eq_some_iff, Prod.mk.injEq, DataW.agg.injEq] at h
      obtain ⟨ys, hy, e1, _⟩ := h
      intro j hj
      obtain ⟨y, hy1, hy2⟩ := mapM_at _ _ ys hy j j (by simp [hj])
      have e2 := congrArg (fun l => l[j]?) e1
      simp only [List.getElem?_map, hy1, Option.map_some] at e2
      rw [List.getElem?_eq_getElem (by omega)] at e2
      simp only [Option.map_some, Option.some.injEq] at e2
      rw [hc, Nat.mul_one] at hy2
      have hz : (List.take 1 (List.drop j cs))[0]? = cs[j]? := by rw [List.getElem?_take, if_pos (by omega), List.getElem?_drop, Nat.add_zero]
      have hg : ls.getD j 0 = ls[j]'(by omega) := by rw [List.getD_eq_getElem?_getD, List.getElem?_eq_getElem (by omega)]; rfl
      rw [hg]
      generalize List.take 1 (List.drop j cs) = c at hy2 hz
      cases m with
      | zero => simp [DataW.trod] at hy2
      | succ m =>
        rw [DataW.trod_step] at hy2
        unfold DataW.trodStep at hy2
        rcases c with _ | ⟨v, _ | ⟨v2, c⟩⟩
        · simp [he] at hy2
        · cases v <;> simp [he] at hy2
          obtain ⟨⟨rfl, _⟩, rfl⟩ := hy2
          rw [← hz]
          simp at e2
          simp [e2]
        · simp [he] at hy2
    · cases h
theorem gName0 : Tryd.prog.globalNamed "math/bits.deBruijn32tab" = some 0 := by kernel_rfl
theorem gName1 : Tryd.prog.globalNamed "math/bits.deBruijn64tab" = some 1 := by kernel_rfl
theorem gType1 : (Tryd.prog.globals[1]?).map (·.type) = some 77 := by kernel_rfl
theorem cellsU8 : Tryd.prog.cellsOf 5 = 1 := by kernel_rfl
theorem tab_is : (Rows.laid_math_bits_deBruijn64tab : DataW Unit) = .agg (tab64.map fun x => .lit (.int .u8 x)) := rfl
set_option maxRecDepth 100000 in
theorem sent_of_laid2 {W : World} (h : laidMet Tryd.prog [("math/bits.deBruijn32tab", Rows.laid_math_bits_deBruijn32tab), ("math/bits.deBruijn64tab", Rows.laid_math_bits_deBruijn64tab)] W) : ∃ _ _ : Addr, Tab W := by
  obtain ⟨ps, ⟨g0, y0, cs0, f0, p0, q0, hg0, ht0, hv0, hd0, ⟨g1, y1, cs1, f1, p1, q1, hg1, ht1, hv1, hd1, hq1, e1⟩, e0⟩, hnd, hrows⟩ := h
  obtain rfl := Option.some.inj (gName1.symm.trans hg1)
  obtain rfl := Option.some.inj (gType1.symm.trans ht1)
  rw [tab_is] at hd1
  have hc := table_of_trod Tryd.underlying77 Tryd.underlying5 cellsU8 f1 cs1.toList tab64 rfl p1 hd1
  have hcell : ∀ j, j < 64 → W.cell? ⟨1, j, none⟩ = some (.int .u8 (tab64.getD j 0)) := fun j hj => by
    rw [World.var?_cell gName1 hv1 j]
    have := hc j hj
    simpa using this
  exact ⟨⟨0, 0, none⟩, ⟨0, 0, none⟩, hcell, World.block_lt_of_cell? W _ (hcell 0 (by omega))⟩
set_option maxRecDepth 100000
noncomputable def laidWorld2 (os : Os) : World :=
  let w0 := World.holding Tryd.prog os ⟨#[], #[], []⟩
  { w0 with heap := (w0.heap.modify 0 fun
      | .cells _ t frozen => .cells #[.int .u8 0, .int .u8 1, .int .u8 28, .int .u8 2, .int .u8 29, .int .u8 14, .int .u8 24, .int .u8 3, .int .u8 30, .int .u8 22, .int .u8 20, .int .u8 15, .int .u8 25, .int .u8 17, .int .u8 4, .int .u8 8, .int .u8 31, .int .u8 27, .int .u8 13, .int .u8 23, .int .u8 21, .int .u8 19, .int .u8 16, .int .u8 7, .int .u8 26, .int .u8 12, .int .u8 18, .int .u8 6, .int .u8 11, .int .u8 5, .int .u8 10, .int .u8 9] t frozen
      | o => o).modify 1 fun
      | .cells _ t frozen => .cells (nums .u8 tab64).toArray t frozen
      | o => o }
theorem laidWorld2_met (os : Os) (args : Array Value) : laidMet Tryd.prog [("math/bits.deBruijn32tab", Rows.laid_math_bits_deBruijn32tab), ("math/bits.deBruijn64tab", Rows.laid_math_bits_deBruijn64tab)] ((laidWorld2 os).forCall (fun _ _ => 0) ⟨#[], args, []⟩).memory :=
  laidMet_of_run' 8 (by kernel_rfl) (by kernel_rfl)
end Go.Proofs.YtlpningplmbnhaaDoor
