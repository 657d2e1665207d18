/- Words for a row's last step: a slice of calls of an AEAD opened. -/
import Derived.Test.YthbgpbaneghmdaaBlockArg2
import Derived.LaidMore
import Derived.SizedLaws
import Derived.Test.YthbgpbaneghmdaaAead
set_option linter.unusedVariables false
namespace Go.Proofs.Ythbgpbaneghmdaa
open Go.RowKit V
open Go.Joins Go.ChangeShapes Go.WideShapes Go.Deep
theorem len_calls {H : Type} {enc : TypeId × Value → H} {P : Program} {W : World} {t tb : TypeId} {A : Option Addr} {len cap : Nat} {d : DataW H} {p : List MemPlace} {ts : List TypeId} {ds : List (DataW H)} {j : Nat}
    (hsz : (DataW.weightsEach P ts ds).all (· ≤ reachBytes) = true) (ht : ts[j]? = some t) (hd : ds[j]? = some d) (hu : P.underlying t = some (.slice tb)) (hB : P.bytesOf tb = 80)
    (h : DataW.Trod enc P W 0 (fun _ => true) true t (.slice A len cap) d p) : len ≤ 9223372036854775806 := by
  obtain ⟨fuel, hf⟩ := h
  rcases DataW.trod_slice hu hf with ⟨hcs, _⟩ | ⟨a, len', cap', elems, rest, n, _, hcs, hx, hb, hl, hm, hlen, hel, _, _⟩
  · simp [Value.cells] at hcs
    obtain ⟨rfl, rfl, rfl⟩ := hcs
    simp
  · simp [Value.cells] at hcs
    obtain ⟨rfl, rfl, rfl⟩ := hcs
    obtain ⟨hx, _⟩ := Prod.mk.inj hx
    subst hx
    have z := sized_slice hsz ht hd hu
    rw [hB, List.length_map, hlen] at z
    simp only [reachBytes] at z
    omega
theorem list4 {α : Type} {cs : List α} (h : cs.length = 4) : ∃ c0 c1 c2 c3, cs = [c0, c1, c2, c3] := by
  match cs, h with
  | [c0, c1, c2, c3], _ => exact ⟨c0, c1, c2, c3, rfl⟩
theorem open_calls {H : Type} {enc : TypeId × Value → H} {P : Program} {W : World} {t tb e : TypeId} {f0 f1 f2 f3 : Field} {A : Option Addr} {len cap : Nat} {d : DataW H} {p : List MemPlace}
    (hu : P.underlying t = some (.slice tb)) (hct : P.cellsOf tb = 4) (hs : P.underlying tb = some (.struct #[f0, f1, f2, f3])) (hone : oneCellFields P #[f0, f1, f2, f3] = true) (hb0 : P.underlying f0.type = some .bool)
    (h1 : P.underlying f1.type = some (.slice e)) (h2 : P.underlying f2.type = some (.slice e)) (h3 : P.underlying f3.type = some (.slice e)) (he : P.underlying e = some (.int .u8)) (hc : P.cellsOf e = 1)
    (h : DataW.Trod enc P W 0 (fun _ => true) true t (.slice A len cap) d p) (hlm : len ≤ 9223372036854775806) :
    ∃ cs : List Cal, len = cs.length ∧ Rcs W A cs := by
  obtain ⟨fuel, hf⟩ := h
  rcases DataW.trod_slice hu hf with ⟨hcs, _⟩ | ⟨a, len', cap', elems, rest, n, _, hcs, hx, hb, hl, hm, hlen, hel, _, _⟩
  · simp [Value.cells] at hcs
    obtain ⟨rfl, rfl, rfl⟩ := hcs
    exact ⟨[], rfl, by simp, fun h => by simp at h, fun x hx => by simp at hx⟩
  · simp [Value.cells] at hcs
    obtain ⟨rfl, rfl, rfl⟩ := hcs
    have each : ∀ i : Fin len, ∃ x : Cal, (∀ j u, x.cells[j]? = some u → W.cell? ((a.add (i.1 * 4)).add j) = some u) ∧ x.ok W := fun i => by
      have hi := hel i.1 i.2
      have hil : i.1 < elems.length := by rw [hlen]; exact i.2
      rw [hct, List.getElem?_eq_getElem hil, Option.bind_eq_some_iff] at hi
      obtain ⟨cs', hcs', hy⟩ := hi
      obtain ⟨_, hl4, hcell⟩ := World.cells?_some hcs'
      obtain ⟨c0, c1, c2, c3, rfl⟩ := list4 hl4
      obtain ⟨y0, y1, y2, y3, m, _, _, g0, g1, g2, g3⟩ := trod_struct4 hs hy
      obtain ⟨o0, k0⟩ := hone_of hone 0 f0 rfl
      obtain ⟨o1, k1⟩ := hone_of hone 1 f1 rfl
      obtain ⟨o2, k2⟩ := hone_of hone 2 f2 rfl
      obtain ⟨o3, k3⟩ := hone_of hone 3 f3 rfl
      rw [o0, k0] at g0
      rw [o1, k1] at g1
      rw [o2, k2] at g2
      rw [o3, k3] at g3
      simp only [List.drop_zero, List.drop_succ_cons, List.take_succ_cons, List.take_zero] at g0 g1 g2 g3
      obtain ⟨b, hbb, _⟩ := DataW.trod_bool hb0 g0
      injection hbb with hbb _
      subst hbb
      obtain ⟨a1, p1, xs1, rfl, q1, r1, s1⟩ := open_bytes1 h1 he hc g1
      obtain ⟨a2, p2, xs2, rfl, q2, r2, s2⟩ := open_bytes1 h2 he hc g2
      obtain ⟨a3, p3, xs3, rfl, q3, r3, s3⟩ := open_bytes1 h3 he hc g3
      refine ⟨⟨b, (a1, xs1.length, p1), xs1, (a2, xs2.length, p2), xs2, (a3, xs3.length, p3), xs3⟩, fun j u hj => ?_, ⟨rfl, q1, r1, s1⟩, ⟨rfl, q2, r2, s2⟩, ⟨rfl, q3, r3, s3⟩⟩
      have hj4 : j < 4 := by
        have := (List.getElem?_eq_some_iff.1 hj).1
        simpa [Cal.cells] using this
      rw [hcell j hj4]
      exact hj
    let f : Fin len → Cal := fun i => (each i).choose
    have hfs := fun i => (each i).choose_spec
    refine ⟨List.ofFn f, by simp, by rw [List.length_ofFn]; omega, fun hp => ⟨a, rfl, ?_, fun k hk j u hj => ?_⟩, fun x hx => ?_⟩
    · have h0 : 0 < len := by simpa using hp
      have := World.block_lt_of_cell? W _ ((hfs ⟨0, h0⟩).1 0 _ rfl)
      rwa [add_block, add_block] at this
    · have hk' : k < len := by simpa using hk
      rw [List.getElem_ofFn] at hj
      exact (hfs ⟨k, hk'⟩).1 j u hj
    · obtain ⟨i, rfl⟩ := List.mem_ofFn.1 hx
      exact (hfs i).2
end Go.Proofs.Ythbgpbaneghmdaa
