/- Words for a row's last step: the lengths of what comes in; a slice of bytes opened. -/
import Derived.SizedLaws
import Derived.ChangeSlices
import Derived.OpenShut
import Derived.ShutString
import Derived.Test.YthnebljgnmggaaaDoorV2
namespace Go.Proofs.YthnebljgnmggaaaDoor.V
open Go.ChangeShapes Go.WideShapes Go.RowKit
theorem sized_ints {H : Type} {enc : TypeId × Value → H} {P : Program} {W : World} {base : Nat} {spare : Nat → Bool} {held : Bool} {t e : TypeId} {k : IntKind} {a : Option Addr} {len cap : Nat} {d : DataW H} {ps : List MemPlace} {ts : List TypeId} {ds : List (DataW H)} {j : Nat}
    (hsz : (DataW.weightsEach P ts ds).all (· ≤ reachBytes) = true) (ht : ts[j]? = some t) (hd : ds[j]? = some d) (hu : P.underlying t = some (.slice e)) (he : P.underlying e = some (.int k)) (hc : P.cellsOf e = 1) {B : Nat} (hB : P.bytesOf e = B)
    (h : DataW.Trod enc P W base spare held t (.slice a len cap) d ps) : len * B ≤ 140737488351232 := by
  obtain ⟨fuel, hf⟩ := h
  rcases open_ints hu he hc hf with ⟨hcs, _⟩ | ⟨x, l, c, zs, hcs, _, hl, _, hz, hx, _, _⟩
  · simp [Value.cells] at hcs
    obtain ⟨rfl, rfl, rfl⟩ := hcs
    simp
  · simp [Value.cells] at hcs
    obtain ⟨rfl, rfl, rfl⟩ := hcs
    obtain ⟨hx, _⟩ := Prod.mk.inj hx
    subst hx
    have z := sized_slice hsz ht hd hu
    rw [hB] at z
    have hl2 : len ≤ zs.length := by
      rw [hz]
      split
      · exact hl
      · exact Nat.le_refl _
    have h1 : (lits (H := H) k (zs.take len)).length + (lits (H := H) k (zs.drop len)).length = zs.length := by
      simp [lits]
      omega
    rw [h1] at z
    exact Nat.le_trans (Nat.mul_le_mul_right _ hl2) z
theorem open_bytes {H : Type} {enc : TypeId × Value → H} {P : Program} {W : World} {t e : TypeId} {a : Option Addr} {len cap : Nat} {d : DataW H} {ps : List MemPlace}
    (hu : P.underlying t = some (.slice e)) (he : P.underlying e = some (.int .u8)) (hc : P.cellsOf e = 1)
    (h : DataW.Trod enc P W 0 (fun _ => true) true t (.slice a len cap) d ps) : ∃ xs : List Int, len = xs.length ∧ xs.length ≤ cap ∧ Rk .u8 W a xs ∧ Byt xs := by
  obtain ⟨fuel, hf⟩ := h
  rcases open_ints hu he hc hf with ⟨hcs, _⟩ | ⟨x, l, c, zs, hcs, _, hl, hm, hz, _, hcell, hwz⟩
  · simp [Value.cells] at hcs
    obtain ⟨rfl, rfl, rfl⟩ := hcs
    exact ⟨[], rfl, by simp, Rk.none_, Byt.nil⟩
  · simp [Value.cells] at hcs
    obtain ⟨rfl, rfl, rfl⟩ := hcs
    have hz' : zs.length = cap := by simpa using hz
    refine ⟨zs.take len, by rw [List.length_take]; omega, by rw [List.length_take]; omega, ⟨by rw [List.length_take]; simp only [maxLen] at hm; omega, fun hp => ⟨x, rfl, ?_, fun j hj => ?_⟩⟩, fun n hn => wf_u8_byte (hwz n (List.mem_of_mem_take hn))⟩
    · rw [List.length_take] at hp
      have := World.block_lt_of_cell? W _ (hcell 0 (by omega))
      rwa [add_block] at this
    · rw [List.length_take] at hj
      rw [hcell j (by omega)]
      simp [List.getD_eq_getElem?_getD, show j < len by omega]
end Go.Proofs.YthnebljgnmggaaaDoor.V
