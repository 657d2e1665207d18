/- Words for a row's last step: an array of two bytes opened. -/
import Derived.Test.YtdofkokeebgigaaDoorDig
import Derived.Test.YtdofkokeebgigaaDoorSized
namespace Go.Proofs.YtdofkokeebgigaaDoor.V
open Go.ChangeShapes Go.WideShapes Go.RowKit Go.Deep
theorem open_two {P : Program} {W : World} {r : Reach} {b0 : Nat} {t e : TypeId} {v : Value} (hu : P.underlying t = some (.array 2 e)) (hC : P.cellsOf t = 2) (hts : P.cellTypes P.depth t = some [e, e]) (he : P.underlying e = some (.int .u8)) (hv : Value.okWide P W r b0 t v) :
    ∃ i0 i1 : Int, v = .agg #[.int .u8 i0, .int .u8 i1] ∧ IsB i0 ∧ IsB i1 := by
  simp only [Value.okWide, hu] at hv
  obtain ⟨cs, rfl, hsz, ts, hts2, _, hall⟩ := hv
  rw [hts] at hts2
  obtain rfl := Option.some.inj hts2
  rw [hC] at hsz
  have cell : ∀ (i : Nat), i < 2 → ∃ n : Int, cs[i]? = some (.int .u8 n) ∧ IsB n := by
    intro i hi
    obtain ⟨u, hu2, hok⟩ := hall i cs[i] (by simp [hsz, hi])
    have hue : u = e := by
      rcases i with _ | _ | i
      · simpa using hu2.symm
      · simpa using hu2.symm
      · omega
    subst hue
    have g : cs[i]? = some cs[i] := by simp [hsz, hi]
    rw [g]
    generalize cs[i] = v at hok ⊢
    cases v <;> simp [Cell.okWide, Cell.ok, he] at hok
    obtain ⟨rfl, h1⟩ := hok
    refine ⟨_, rfl, ?_⟩
    simp [IntKind.has, IntKind.min, IntKind.max, IntKind.bits, IntKind.signed] at h1
    unfold IsB
    omega
  obtain ⟨n0, e0, h0⟩ := cell 0 (by omega)
  obtain ⟨n1, e1, h1⟩ := cell 1 (by omega)
  refine ⟨n0, n1, ?_, h0, h1⟩
  congr 1
  apply Array.ext_getElem?
  intro i
  rcases i with _ | _ | i
  · simpa using e0
  · simpa using e1
  · rw [Array.getElem?_eq_none (by omega)]; simp
end Go.Proofs.YtdofkokeebgigaaDoor.V
