/- Words for a row's last step: a slice of slices of bytes opened. -/
import Derived.Test.YtphnjfbaioblbaaDoorSized
import Derived.Lib.SmallJoins
import Derived.LaidMore
import Derived.SizedLaws
import Derived.Test.YtphnjfbaioblbaaDoorRwsB
set_option linter.unusedVariables false
namespace Go.Proofs.YtphnjfbaioblbaaDoor.V
open Go.Joins Go.ChangeShapes Go.WideShapes Go.RowKit Go.Deep
theorem open_bytes3 {H : Type} {enc : TypeId × Value → H} {P : Program} {W : World} {t e : TypeId} {cs : List Value} {y : DataW H × List MemPlace} {n : Nat}
    (hu : P.underlying t = some (.slice e)) (he : P.underlying e = some (.int .u8)) (hc : P.cellsOf e = 1)
    (h : DataW.trod enc P W 0 (fun _ => true) true n t cs = some y) : ∃ (q : (Option Addr × Nat × Nat) × List Int), cs = [.slice q.1.1 q.1.2.1 q.1.2.2] ∧ q.1.2.1 = q.2.length ∧ Rb W q.1.1 q.2 ∧ Byt q.2 := by
  rcases open_ints hu he hc h with ⟨hcs, _⟩ | ⟨x, l, c, zs, hcs, _, hl, hm, hz, hy, hcell, hwz⟩
  · exact ⟨((none, 0, 0), []), hcs, rfl, Rk.none_, Byt.nil⟩
  · have hz' : zs.length = c := by simpa using hz
    have hln : (zs.take l).length = l := by rw [List.length_take]; omega
    refine ⟨((some x, l, c), zs.take l), hcs, hln.symm, ⟨by rw [hln]; simp only [maxLen] at hm; omega, fun hp => ⟨x, rfl, ?_, fun j hj => ?_⟩⟩, fun n hn => wf_u8_byte (hwz n (List.mem_of_mem_take hn))⟩
    · rw [hln] at hp
      have := World.block_lt_of_cell? W _ (hcell 0 (by omega))
      rwa [add_block] at this
    · rw [hln] at hj
      rw [hcell j (by omega)]
      simp [List.getD_eq_getElem?_getD, show j < l by omega]
theorem len_rows {H : Type} {enc : TypeId × Value → H} {P : Program} {W : World} {t tb : TypeId} {e : TypeId} {A : Option Addr} {len cap : Nat} {d : DataW H} {p : List MemPlace} {ts : List TypeId} {ds : List (DataW H)} {j : Nat}
    (hsz : (DataW.weightsEach P ts ds).all (· ≤ reachBytes) = true) (ht : ts[j]? = some t) (hd : ds[j]? = some d) (hu : P.underlying t = some (.slice tb)) (hub : P.underlying tb = some (.slice e)) (hct : P.cellsOf tb = 1) (hB : P.bytesOf tb = 24)
    (h : DataW.Trod enc P W 0 (fun _ => true) true t (.slice A len cap) d p) : len ≤ 9223372036854775806 := by
  obtain ⟨fuel, hf⟩ := h
  rcases DataW.trod_slice hu hf with ⟨hcs, _⟩ | ⟨a, len', cap', elems, rest, n, _, hcs, hx, hb, hl, hm, hlen, hel, _, _⟩
  · simp [Value.cells] at hcs
    obtain ⟨rfl, rfl, rfl⟩ := hcs
    simp
  · simp [Value.cells] at hcs
    obtain ⟨rfl, rfl, rfl⟩ := hcs
    obtain ⟨hx, _⟩ := Prod.mk.inj hx
    subst hx
    have z := sized_slice hsz ht hd hu
    rw [hB, List.length_map, hlen] at z
    simp only [reachBytes] at z
    omega
theorem open_rows3 {H : Type} {enc : TypeId × Value → H} {P : Program} {W : World} {t tb e : TypeId} {A : Option Addr} {len cap : Nat} {d : DataW H} {p : List MemPlace}
    (hu : P.underlying t = some (.slice tb)) (hct : P.cellsOf tb = 1) (hub : P.underlying tb = some (.slice e)) (he : P.underlying e = some (.int .u8)) (hc : P.cellsOf e = 1)
    (h : DataW.Trod enc P W 0 (fun _ => true) true t (.slice A len cap) d p) (hlm : len ≤ 9223372036854775806) :
    ∃ (vs : List (Option Addr × Nat × Nat)) (xss : List (List Int)), len = vs.length ∧ Rrs W A vs xss ∧ Byt xss.flatten := by
  obtain ⟨fuel, hf⟩ := h
  rcases DataW.trod_slice hu hf with ⟨hcs, _⟩ | ⟨a, len', cap', elems, rest, n, _, hcs, hx, hb, hl, hm, hlen, hel, _, _⟩
  · simp [Value.cells] at hcs
    obtain ⟨rfl, rfl, rfl⟩ := hcs
    exact ⟨[], [], rfl, ⟨⟨by simp, fun h => by simp at h⟩, rfl, fun j h => by simp at h⟩, by simpa using Byt.nil⟩
  · simp [Value.cells] at hcs
    obtain ⟨rfl, rfl, rfl⟩ := hcs
    have each : ∀ i : Fin len, ∃ (q : (Option Addr × Nat × Nat) × List Int), W.cell? (a.add i.1) = some (.slice q.1.1 q.1.2.1 q.1.2.2) ∧ q.1.2.1 = q.2.length ∧ Rb W q.1.1 q.2 ∧ Byt q.2 := fun i => by
      have hi := hel i.1 i.2
      have hil : i.1 < elems.length := by rw [hlen]; exact i.2
      rw [hct, Nat.mul_one, List.getElem?_eq_getElem hil, Option.bind_eq_some_iff] at hi
      obtain ⟨cs', hcs', hy⟩ := hi
      obtain ⟨q, rfl, h1, h2, h3⟩ := open_bytes3 hub he hc hy
      exact ⟨q, cell_of_cells?_one hcs', h1, h2, h3⟩
    let f : Fin len → (Option Addr × Nat × Nat) × List Int := fun i => (each i).choose
    have hfs := fun i => (each i).choose_spec
    refine ⟨List.ofFn (fun i => (f i).1), List.ofFn (fun i => (f i).2), by simp, ⟨⟨by rw [List.length_ofFn]; omega, fun hp => ⟨a, rfl, ?_, fun j hj => ?_⟩⟩, by simp, fun j h1 h2 => ?_⟩, ?_⟩
    · have h0 : 0 < len := by simpa using hp
      have := World.block_lt_of_cell? W _ (hfs ⟨0, h0⟩).1
      rwa [add_block] at this
    · have hj' : j < len := by simpa using hj
      rw [List.getElem_ofFn]
      exact (hfs ⟨j, hj'⟩).1
    · have hj' : j < len := by simpa using h1
      rw [List.getElem_ofFn, List.getElem_ofFn]
      exact ⟨(hfs ⟨j, hj'⟩).2.1, (hfs ⟨j, hj'⟩).2.2.1⟩
    · intro x hx
      obtain ⟨l, hl1, hl2⟩ := List.mem_flatten.1 hx
      obtain ⟨i, rfl⟩ := List.mem_ofFn.1 hl1
      exact (hfs i).2.2.2 x hl2
end Go.Proofs.YtphnjfbaioblbaaDoor.V
