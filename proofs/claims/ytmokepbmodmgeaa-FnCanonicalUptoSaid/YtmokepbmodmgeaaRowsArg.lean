/- Words for a row's last step: a slice of slices of bytes opened, its bytes at most its bulk. -/
import Derived.Test.YtmokepbmodmgeaaHashArg
import Derived.Test.YtmokepbmodmgeaaCanT
import Derived.Test.YtmokepbmodmgeaaRows
import Derived.LaidMore
namespace Go.Proofs.Ytmokepbmodmgeaa
open Go.Joins Go.ChangeShapes Go.WideShapes Go.RowKit Go.Deep V
theorem bulk_pos {H : Type} (d : DataW H) : 1 ≤ Rows.uptoBulk d := by
  cases d with
  | lit l => cases l <;> simp [Rows.uptoBulk]
  | _ => simp [Rows.uptoBulk]
theorem bulk_len {H : Type} : ∀ l : List (DataW H), l.length ≤ Rows.uptoBulkAll l
  | [] => by simp [Rows.uptoBulkAll]
  | x :: r => by
    have h1 := bulk_len r
    have h2 := bulk_pos x
    simp only [Rows.uptoBulkAll, List.length_cons]
    omega
theorem bulk_flat {H : Type} : ∀ (es : List (DataW H)) (ls : List (List Int)), ls.length = es.length → (∀ i (h : i < ls.length) (h' : i < es.length), ls[i].length ≤ Rows.uptoBulk es[i]) → ls.flatten.length ≤ Rows.uptoBulkAll es
  | [], [], _, _ => by simp [Rows.uptoBulkAll]
  | [], _ :: _, h, _ => by simp at h
  | _ :: _, [], h, _ => by simp at h
  | e :: es, l :: ls, h, hb => by
    have h1 := bulk_flat es ls (by simpa using h) (fun i h1 h2 => by
      have := hb (i + 1) (by simpa using h1) (by simpa using h2)
      simpa using this)
    have h2 := hb 0 (by simp) (by simp)
    simp only [List.getElem_cons_zero] at h2
    simp only [Rows.uptoBulkAll, List.flatten_cons, List.length_append]
    omega
theorem open_bytes2 {H : Type} {enc : TypeId × Value → H} {P : Program} {W : World} {t e : TypeId} {cs : List Value} {y : DataW H × List MemPlace} {n : Nat}
    (hu : P.underlying t = some (.slice e)) (he : P.underlying e = some (.int .u8)) (hc : P.cellsOf e = 1)
    (h : DataW.trod enc P W 0 (fun _ => true) true n t cs = some y) : ∃ (q : (Option Addr × Nat × Nat) × List Int), cs = [.slice q.1.1 q.1.2.1 q.1.2.2] ∧ q.1.2.1 = q.2.length ∧ Rb W q.1.1 q.2 ∧ Byt q.2 ∧ q.2.length ≤ Rows.uptoBulk y.1 := by
  rcases open_ints hu he hc h with ⟨hcs, _⟩ | ⟨x, l, c, zs, hcs, _, hl, hm, hz, hy, hcell, hwz⟩
  · exact ⟨((none, 0, 0), []), hcs, rfl, Rk.none_, Byt.nil, by simp⟩
  · have hz' : zs.length = c := by simpa using hz
    have hln : (zs.take l).length = l := by rw [List.length_take]; omega
    refine ⟨((some x, l, c), zs.take l), hcs, hln.symm, ⟨by rw [hln]; simp only [maxLen] at hm; omega, fun hp => ⟨x, rfl, ?_, fun j hj => ?_⟩⟩, fun n hn => wf_u8_byte (hwz n (List.mem_of_mem_take hn)), ?_⟩
    · rw [hln] at hp
      have := World.block_lt_of_cell? W _ (hcell 0 (by omega))
      rwa [add_block] at this
    · rw [hln] at hj
      rw [hcell j (by omega)]
      simp [List.getD_eq_getElem?_getD, show j < l by omega]
    · subst hy
      have h1 := bulk_len (lits (H := H) .u8 (zs.take l))
      have h2 : (lits (H := H) .u8 (zs.take l)).length = (zs.take l).length := by simp [lits]
      simp only [Rows.uptoBulk]
      omega
theorem open_rows {H : Type} {enc : TypeId × Value → H} {P : Program} {W : World} {t tb e : TypeId} {A : Option Addr} {len cap : Nat} {d : DataW H} {p : List MemPlace}
    (hu : P.underlying t = some (.slice tb)) (hct : P.cellsOf tb = 1) (hub : P.underlying tb = some (.slice e)) (he : P.underlying e = some (.int .u8)) (hc : P.cellsOf e = 1)
    (h : DataW.Trod enc P W 0 (fun _ => true) true t (.slice A len cap) d p) (hk : Rows.uptoBulk d ≤ 1048576) :
    ∃ (vs : List (Option Addr × Nat × Nat)) (xss : List (List Int)), len = vs.length ∧ Rss W A vs xss ∧ Byt xss.flatten ∧ xss.flatten.length ≤ Rows.uptoBulk d := by
  obtain ⟨fuel, hf⟩ := h
  rcases DataW.trod_slice hu hf with ⟨hcs, _⟩ | ⟨a, len', cap', elems, rest, n, _, hcs, hx, hb, hl, hm, hlen, hel, _, _⟩
  · simp [Value.cells] at hcs
    obtain ⟨rfl, rfl, rfl⟩ := hcs
    exact ⟨[], [], rfl, ⟨⟨by simp, fun h => by simp at h⟩, rfl, fun j h => by simp at h⟩, by simpa using Byt.nil, by simp⟩
  · simp [Value.cells] at hcs
    obtain ⟨rfl, rfl, rfl⟩ := hcs
    obtain ⟨hd, _⟩ := Prod.mk.inj hx
    have hlk : len ≤ 1048576 := by
      have h1 := bulk_len (elems.map (·.1))
      rw [hd] at hk
      simp only [Rows.uptoBulk] at hk
      rw [List.length_map, hlen] at h1
      omega
    have each : ∀ i : Fin len, ∃ (q : (Option Addr × Nat × Nat) × List Int), W.cell? (a.add i.1) = some (.slice q.1.1 q.1.2.1 q.1.2.2) ∧ q.1.2.1 = q.2.length ∧ Rb W q.1.1 q.2 ∧ Byt q.2 ∧ q.2.length ≤ Rows.uptoBulk (elems[i.1]'(by rw [hlen]; exact i.2)).1 := fun i => by
      have hi := hel i.1 i.2
      have hil : i.1 < elems.length := by rw [hlen]; exact i.2
      rw [hct, Nat.mul_one, List.getElem?_eq_getElem hil, Option.bind_eq_some_iff] at hi
      obtain ⟨cs', hcs', hy⟩ := hi
      obtain ⟨q, rfl, h1, h2, h3, h4⟩ := open_bytes2 hub he hc hy
      exact ⟨q, cell_of_cells?_one hcs', h1, h2, h3, h4⟩
    let f : Fin len → (Option Addr × Nat × Nat) × List Int := fun i => (each i).choose
    have hfs := fun i => (each i).choose_spec
    refine ⟨List.ofFn (fun i => (f i).1), List.ofFn (fun i => (f i).2), by simp, ⟨⟨by rw [List.length_ofFn]; omega, fun hp => ⟨a, rfl, ?_, fun j hj => ?_⟩⟩, by simp, fun j h1 h2 => ?_⟩, ?_, ?_⟩
    · have h0 : 0 < len := by simpa using hp
      have := World.block_lt_of_cell? W _ (hfs ⟨0, h0⟩).1
      rwa [add_block] at this
    · have hj' : j < len := by simpa using hj
      rw [List.getElem_ofFn]
      exact (hfs ⟨j, hj'⟩).1
    · have hj' : j < len := by simpa using h1
      rw [List.getElem_ofFn, List.getElem_ofFn]
      exact ⟨(hfs ⟨j, hj'⟩).2.1, (hfs ⟨j, hj'⟩).2.2.1⟩
    · intro x hx
      obtain ⟨l, hl1, hl2⟩ := List.mem_flatten.1 hx
      obtain ⟨i, rfl⟩ := List.mem_ofFn.1 hl1
      exact (hfs i).2.2.2.1 x hl2
    · have h1 := bulk_flat (elems.map (·.1)) (List.ofFn (fun i => (f i).2)) (by simp [hlen]) (fun i h1 h2 => by
        have hi' : i < len := by simpa using h1
        rw [List.getElem_ofFn, List.getElem_map]
        exact (hfs ⟨i, hi'⟩).2.2.2.2)
      rw [hd]
      simp only [Rows.uptoBulk]
      omega
end Go.Proofs.Ytmokepbmodmgeaa
