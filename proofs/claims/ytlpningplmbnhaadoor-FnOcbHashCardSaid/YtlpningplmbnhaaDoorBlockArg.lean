/- Words for a row's last step: a struct of three slices of bytes opened. -/
import Derived.Test.YtlpningplmbnhaaDoorHashArg
namespace Go.Proofs.YtlpningplmbnhaaDoor.V
open Go.Joins Go.ChangeShapes Go.WideShapes Go.RowKit Go.Deep
theorem open_block {H : Type} {enc : TypeId × Value → H} {P : Program} {W : World} {r : Reach} {b0 : Nat} {t tb e : TypeId} {f0 f1 f2 : Field} {v : Value} {d : DataW H} {p : List MemPlace} (hs : P.underlying t = some (.struct #[f0, f1, f2])) (hone : oneCellFields P #[f0, f1, f2] = true) (hC : P.cellsOf t = 3)
    (h0 : f0.type = tb) (h1 : f1.type = tb) (h2 : f2.type = tb) (hu : P.underlying tb = some (.slice e)) (he : P.underlying e = some (.int .u8)) (hc : P.cellsOf e = 1)
    (hv : Value.okWide P W r b0 t v) (h : DataW.Trod enc P W 0 (fun _ => true) true t v d p) :
    ∃ (A0 : Option Addr) (c0 : Nat) (xs0 : List Int) (A1 : Option Addr) (c1 : Nat) (xs1 : List Int) (A2 : Option Addr) (c2 : Nat) (xs2 : List Int), v = .agg #[.slice A0 xs0.length c0, .slice A1 xs1.length c1, .slice A2 xs2.length c2] ∧ Rk .u8 W A0 xs0 ∧ Byt xs0 ∧ Rk .u8 W A1 xs1 ∧ Byt xs1 ∧ Rk .u8 W A2 xs2 ∧ Byt xs2 := by
  obtain ⟨u0, u1, u2, y0, y1, y2, n, rfl, _, _, g0, g1, g2⟩ := open_agg3 hs hone hC hv h
  rw [h0] at g0
  rw [h1] at g1
  rw [h2] at g2
  obtain ⟨A0, c0, xs0, rfl, _, hx0, hb0⟩ := open_bytes1 hu he hc g0
  obtain ⟨A1, c1, xs1, rfl, _, hx1, hb1⟩ := open_bytes1 hu he hc g1
  obtain ⟨A2, c2, xs2, rfl, _, hx2, hb2⟩ := open_bytes1 hu he hc g2
  exact ⟨A0, c0, xs0, A1, c1, xs1, A2, c2, xs2, rfl, hx0, hb0, hx1, hb1, hx2, hb2⟩
end Go.Proofs.YtlpningplmbnhaaDoor.V
