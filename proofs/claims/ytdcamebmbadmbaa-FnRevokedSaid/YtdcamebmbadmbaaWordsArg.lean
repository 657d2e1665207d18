/- A slice of words of 32 bits, opened. -/
import Derived.Test.YtdcamebmbadmbaaSized
namespace Go.Proofs.Ytdcamebmbadmbaa.V
open Go.ChangeShapes Go.WideShapes Go.RowKit
theorem open_words {H : Type} {enc : TypeId × Value → H} {P : Program} {W : World} {t e : TypeId} {a : Option Addr} {len cap : Nat} {d : DataW H} {ps : List MemPlace}
    (hu : P.underlying t = some (.slice e)) (he : P.underlying e = some (.int .u32)) (hc : P.cellsOf e = 1)
    (h : DataW.Trod enc P W 0 (fun _ => true) true t (.slice a len cap) d ps) : ∃ xs : List Int, len = xs.length ∧ xs.length ≤ cap ∧ Rk .u32 W a xs ∧ (∀ x ∈ xs, 0 ≤ x ∧ x ≤ 4294967295) := by
  obtain ⟨fuel, hf⟩ := h
  rcases open_ints hu he hc hf with ⟨hcs, _⟩ | ⟨x, l, c, zs, hcs, _, hl, hm, hz, _, hcell, hwz⟩
  · simp [Value.cells] at hcs
    obtain ⟨rfl, rfl, rfl⟩ := hcs
    exact ⟨[], rfl, by simp, Rk.none_, (fun x hx => by cases hx)⟩
  · simp [Value.cells] at hcs
    obtain ⟨rfl, rfl, rfl⟩ := hcs
    have hz' : zs.length = cap := by simpa using hz
    refine ⟨zs.take len, by rw [List.length_take]; omega, by rw [List.length_take]; omega, ⟨by rw [List.length_take]; simp only [maxLen] at hm; omega, fun hp => ⟨x, rfl, ?_, fun j hj => ?_⟩⟩, fun n hn => wf_u32_lt (hwz n (List.mem_of_mem_take hn))⟩
    · rw [List.length_take] at hp
      have := World.block_lt_of_cell? W _ (hcell 0 (by omega))
      rwa [add_block] at this
    · rw [List.length_take] at hj
      rw [hcell j (by omega)]
      simp [List.getD_eq_getElem?_getD, show j < len by omega]
end Go.Proofs.Ytdcamebmbadmbaa.V
