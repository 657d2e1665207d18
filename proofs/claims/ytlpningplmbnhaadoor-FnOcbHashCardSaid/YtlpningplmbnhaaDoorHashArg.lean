/- Words for a row's last step: a struct of two slices of bytes opened. -/
import Derived.Test.YtlpningplmbnhaaDoorSized
import Derived.Lib.SmallJoins
namespace Go.Proofs.YtlpningplmbnhaaDoor.V
open Go.Joins Go.ChangeShapes Go.WideShapes Go.RowKit Go.Deep
theorem open_bytes1 {H : Type} {enc : TypeId × Value → H} {P : Program} {W : World} {t e : TypeId} {u : Value} {y : DataW H × List MemPlace} {n : Nat}
    (hu : P.underlying t = some (.slice e)) (he : P.underlying e = some (.int .u8)) (hc : P.cellsOf e = 1)
    (h : DataW.trod enc P W 0 (fun _ => true) true n t [u] = some y) : ∃ (a : Option Addr) (cap : Nat) (xs : List Int), u = .slice a xs.length cap ∧ xs.length ≤ cap ∧ Rk .u8 W a xs ∧ Byt xs := by
  rcases open_ints hu he hc h with ⟨hcs, _⟩ | ⟨x, l, c, zs, hcs, _, hl, hm, hz, _, hcell, hwz⟩
  · simp at hcs
    subst hcs
    exact ⟨none, 0, [], rfl, by simp, Rk.none_, Byt.nil⟩
  · simp at hcs
    subst hcs
    have hz' : zs.length = c := by simpa using hz
    have hln : (zs.take l).length = l := by rw [List.length_take]; omega
    refine ⟨some x, c, zs.take l, by rw [hln], by omega, ⟨by rw [hln]; simp only [maxLen] at hm; omega, fun hp => ⟨x, rfl, ?_, fun j hj => ?_⟩⟩, fun n hn => wf_u8_byte (hwz n (List.mem_of_mem_take hn))⟩
    · rw [hln] at hp
      have := World.block_lt_of_cell? W _ (hcell 0 (by omega))
      rwa [add_block] at this
    · rw [hln] at hj
      rw [hcell j (by omega)]
      simp [List.getD_eq_getElem?_getD, show j < l by omega]
/-- A struct of two slices of bytes. -/
theorem open_hash {H : Type} {enc : TypeId × Value → H} {P : Program} {W : World} {r : Reach} {b0 : Nat} {t tb e : TypeId} {f0 f1 : Field} {v : Value} {d : DataW H} {p : List MemPlace} (hs : P.underlying t = some (.struct #[f0, f1])) (hone : oneCellFields P #[f0, f1] = true) (hC : P.cellsOf t = 2)
    (h0 : f0.type = tb) (h1 : f1.type = tb) (hu : P.underlying tb = some (.slice e)) (he : P.underlying e = some (.int .u8)) (hc : P.cellsOf e = 1)
    (hv : Value.okWide P W r b0 t v) (h : DataW.Trod enc P W 0 (fun _ => true) true t v d p) :
    ∃ (A0 : Option Addr) (c0 : Nat) (xs0 : List Int) (A1 : Option Addr) (c1 : Nat) (xs1 : List Int), v = .agg #[.slice A0 xs0.length c0, .slice A1 xs1.length c1] ∧ Rk .u8 W A0 xs0 ∧ Byt xs0 ∧ Rk .u8 W A1 xs1 ∧ Byt xs1 := by
  obtain ⟨u0, u1, y0, y1, n, rfl, _, _, g0, g1⟩ := open_agg2 hs hone hC hv h
  rw [h0] at g0
  rw [h1] at g1
  obtain ⟨A0, c0, xs0, rfl, _, hx0, hb0⟩ := open_bytes1 hu he hc g0
  obtain ⟨A1, c1, xs1, rfl, _, hx1, hb1⟩ := open_bytes1 hu he hc g1
  exact ⟨A0, c0, xs0, A1, c1, xs1, rfl, hx0, hb0, hx1, hb1⟩
end Go.Proofs.YtlpningplmbnhaaDoor.V
