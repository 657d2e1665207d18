/- FnPrimary's law in plain words: the drawn identities, the best of them. -/
import Derived.Test.YtdcamebmbadmbaaPrimL
import Derived.Test.YtdcamebmbadmbaaFRevoked
set_option linter.unusedVariables false
set_option linter.unusedSimpArgs false
namespace Go.Proofs.Ytdcamebmbadmbaa
open Go.RowKit V
/-- What the drawn identities are like. -/
structure Good (nmOf : Nat → ByteArray) (l : List Idn) : Prop where
  apart : Apart l
  times : l.Pairwise (fun i j => i.t ≠ j.t)
  ok : ∀ i ∈ l, i.Ok ∧ i.nm.size ≤ 1000
  names : ∀ i ∈ l, ∃ j, j < l.length ∧ i.nm = nmOf j
theorem Good.nil (nmOf : Nat → ByteArray) : Good nmOf [] := ⟨List.Pairwise.nil, List.Pairwise.nil, fun i h => by (cases h), fun i h => by (cases h)⟩
theorem Good.snoc {nmOf : Nat → ByteArray} {l : List Idn} {i : Idn} (h : Good nmOf l) (hi : i.Ok) (hs : i.nm.size ≤ 1000) (hn : i.nm = nmOf l.length) (hinj : ∀ j, j < l.length → nmOf j ≠ nmOf l.length) (ht : ∀ x ∈ l, x.t ≠ i.t) : Good nmOf (l ++ [i]) := by
  refine ⟨List.pairwise_append.2 ⟨h.apart, by simp, fun a ha b hb => ?_⟩, List.pairwise_append.2 ⟨h.times, by simp, fun a ha b hb => ?_⟩, fun x hx => ?_, fun x hx => ?_⟩
  · simp at hb; subst hb
    obtain ⟨j, hj, e⟩ := h.names a ha
    rw [e, hn]
    exact hinj j hj
  · simp at hb; subst hb
    exact ht a ha
  · rcases List.mem_append.1 hx with h1 | h1
    · exact h.ok x h1
    · simp at h1; subst h1; exact ⟨hi, hs⟩
  · rw [List.length_append, List.length_singleton]
    rcases List.mem_append.1 hx with h1 | h1
    · obtain ⟨j, hj, e⟩ := h.names x h1
      exact ⟨j, by omega, e⟩
    · simp at h1; subst h1; exact ⟨l.length, by omega, hn⟩
/-- Which one is the best so far, and its rank. -/
def BestOf (l : List Idn) (bv mv : Value) : Prop :=
  (l = [] ∧ bv = .int .i64 0 ∧ mv = .int .i64 (-1)) ∨ ∃ (b : Nat) (i : Idn), l[b]? = some i ∧ bv = .int .i64 b ∧ mv = .int .i64 (i.rank - 1000) ∧ ∀ j ∈ l, j.rank ≤ i.rank
theorem BestOf.nil : BestOf [] (.int .i64 0) (.int .i64 (-1)) := .inl ⟨rfl, rfl, rfl⟩
theorem rank_low {i : Idn} (h : i.Ok) : 1000 ≤ i.rank := by
  obtain ⟨nm, t, p, rv⟩ := i
  obtain ⟨h1, h2, h3⟩ := h
  simp only [Idn.rank] at *
  cases rv <;> rcases h3 with rfl | rfl <;> simp <;> omega
theorem rank_high {i : Idn} (h : i.Ok) : i.rank ≤ 9000 := by
  obtain ⟨nm, t, p, rv⟩ := i
  obtain ⟨h1, h2, h3⟩ := h
  simp only [Idn.rank] at *
  cases rv <;> rcases h3 with rfl | rfl <;> simp <;> omega
/-- The value of the greatest rank so far is a number. -/
theorem BestOf.num {l : List Idn} {bv mv : Value} (h : BestOf l bv mv) (hok : ∀ i ∈ l, i.Ok) : ∃ (b : Nat) (M : Int), bv = .int .i64 b ∧ mv = .int .i64 M ∧ -1 ≤ M ∧ M ≤ 8000 ∧
    (∀ i : Idn, i.Ok → M < i.rank - 1000 → BestOf (l ++ [i]) (.int .i64 l.length) (.int .i64 (i.rank - 1000))) ∧ (∀ i : Idn, i.Ok → ¬ M < i.rank - 1000 → BestOf (l ++ [i]) bv mv) := by
  rcases h with ⟨rfl, rfl, rfl⟩ | ⟨b, i, hi, rfl, rfl, hm⟩
  · refine ⟨0, -1, rfl, rfl, by omega, by omega, fun i ok h => .inr ⟨0, i, rfl, rfl, rfl, fun j hj => by simp at hj; subst hj; exact Int.le_refl _⟩, fun i ok h => ?_⟩
    have := rank_low ok
    omega
  · have him : i ∈ l := List.mem_of_getElem? hi
    have r1 := rank_low (hok i him)
    have r2 := rank_high (hok i him)
    refine ⟨b, i.rank - 1000, rfl, rfl, by omega, by omega, fun x ok h => .inr ⟨l.length, x, by simp, rfl, rfl, fun j hj => ?_⟩, fun x ok h => .inr ⟨b, i, ?_, rfl, rfl, fun j hj => ?_⟩⟩
    · rcases List.mem_append.1 hj with h1 | h1
      · have := hm j h1; omega
      · simp at h1; subst h1; exact Int.le_refl _
    · rw [List.getElem?_append_left (List.getElem?_eq_some_iff.1 hi).1]; exact hi
    · rcases List.mem_append.1 hj with h1 | h1
      · exact hm j h1
      · simp at h1; subst h1; omega
theorem rank_inj {i j : Idn} (hi : i.Ok) (hj : j.Ok) (h : i.rank = j.rank) : i.t = j.t := by
  obtain ⟨nm, t, p, rv⟩ := i
  obtain ⟨nm', t', p', rv'⟩ := j
  obtain ⟨h1, h2, h3⟩ := hi
  obtain ⟨h1', h2', h3'⟩ := hj
  simp only [Idn.rank] at *
  cases rv <;> cases rv' <;> rcases h3 with rfl | rfl <;> rcases h3' with rfl | rfl <;> simp at h <;> omega
/-- The place that is found is the best one's. -/
theorem top_best {nmOf : Nat → ByteArray} {l : List Idn} {m : Nat} {bv mv : Value} (hg : Good nmOf l) (hl : l ≠ []) (ht : TopAt l m) (hb : BestOf l bv mv) : bv = .int .i64 m := by
  rcases hb with ⟨rfl, _, _⟩ | ⟨b, i, hi, rfl, _, hm⟩
  · exact absurd rfl hl
  · obtain ⟨j, hj, hjm⟩ := ht
    have him : i ∈ l := List.mem_of_getElem? hi
    have hjl : j ∈ l := List.mem_of_getElem? hj
    have hr : i.rank = j.rank := by have := hm j hjl; have := hjm i him; omega
    have htt := rank_inj (hg.ok i him).1 (hg.ok j hjl).1 hr
    have hbl : b < l.length := (List.getElem?_eq_some_iff.1 hi).1
    have hml : m < l.length := (List.getElem?_eq_some_iff.1 hj).1
    rw [List.getElem?_eq_getElem hbl] at hi
    rw [List.getElem?_eq_getElem hml] at hj
    have e1 := Option.some.inj hi
    have e2 := Option.some.inj hj
    rcases Nat.lt_trichotomy b m with h | h | h
    · exact absurd (by rw [e1, e2]; exact htt) (List.pairwise_iff_getElem.1 hg.times b m hbl hml h)
    · rw [h]
    · exact absurd (by rw [e1, e2]; exact htt.symm) (List.pairwise_iff_getElem.1 hg.times m b hml hbl h)
/-! ### a row of identities that grows -/
theorem icells_one (q : (Nat × Nat) × Idn) : ∀ u ∈ icells q, u.oneCell' = true := by
  intro u hu
  simp only [icells, List.mem_cons, List.mem_nil_iff, or_false] at hu
  rcases hu with rfl | rfl | rfl | rfl
  · rfl
  · rfl
  · split <;> rfl
  · rfl
theorem IRow.snoc {w w1 : World} {base : Nat} {v v1 : Value} {l : List Idn} {ps : List ((Nat × Nat) × Idn)} {q : (Nat × Nat) × Idn}
    (hl : ps.map Prod.snd = l) (hi : ∀ q ∈ ps, IdSrc w q ∧ v.ownBlock ≠ some q.1.1 ∧ v.ownBlock ≠ some q.1.2 ∧ base ≤ q.1.1 ∧ base ≤ q.1.2 ∧ q.1.1 < w.heap.size ∧ q.1.2 < w.heap.size)
    (hq : IdSrc w q ∧ v.ownBlock ≠ some q.1.1 ∧ v.ownBlock ≠ some q.1.2 ∧ base ≤ q.1.1 ∧ base ≤ q.1.2 ∧ q.1.1 < w.heap.size ∧ q.1.2 < w.heap.size)
    (h2 : w1.ownsRow base 43 4 v1 (l.length + 1) (ps.flatMap icells ++ icells q)) (h3 : w.grownBy w1 v.ownBlock) (h5 : v1.ownBlock = v.ownBlock ∨ v1.ownBlock = some w.heap.size) :
    IRow w1 base v1 (l ++ [q.2]) := by
  have hf : ∀ q : (Nat × Nat) × Idn, (IdSrc w q ∧ v.ownBlock ≠ some q.1.1 ∧ v.ownBlock ≠ some q.1.2 ∧ base ≤ q.1.1 ∧ base ≤ q.1.2 ∧ q.1.1 < w.heap.size ∧ q.1.2 < w.heap.size) → IdSrc w1 q ∧ v1.ownBlock ≠ some q.1.1 ∧ v1.ownBlock ≠ some q.1.2 ∧ base ≤ q.1.1 ∧ base ≤ q.1.2 ∧ q.1.1 < w1.heap.size ∧ q.1.2 < w1.heap.size := fun q ⟨a, b, c, d, e, f, g⟩ => by
    refine ⟨a.chg (grown_chg h3) b c, ?_, ?_, d, e, Nat.lt_of_lt_of_le f h3.size, Nat.lt_of_lt_of_le g h3.size⟩
    · rcases h5 with h5 | h5
      · rw [h5]; exact b
      · rw [h5]; intro x; injection x with x; omega
    · rcases h5 with h5 | h5
      · rw [h5]; exact c
      · rw [h5]; intro x; injection x with x; omega
  refine ⟨ps ++ [q], by rw [List.map_append, hl]; rfl, ?_, fun x hx => ?_⟩
  · rw [List.length_append, List.flatMap_append]
    simpa using h2
  · rcases List.mem_append.1 hx with h | h
    · exact hf x (hi x h)
    · simp at h; subst h; exact hf _ hq
theorem infoIdn : (Try.prog.info? 43).map (fun i => (i.zero, i.size, i.bytes)) = some (some (.agg #[.string ⟨#[]⟩, .slice none 0 0, .slice none 0 0, .slice none 0 0]), 4, 88) := by kernel_rfl
theorem inBuiltP (t p : Int) : Try.prog.built 41 [(0, .int .i64 4), (1, .int .u8 19), (7, .agg #[.bool true, .int .u64 t]), (19, .agg #[.bool true, .int .u64 p])] = some (inCellsP 19 t p).toArray := by kernel_rfl
theorem inSliceP (t p : Int) : Try.prog.builtSlice 41 1 [(0, .agg (inCellsP 19 t p).toArray)] = some (inCellsP 19 t p).toArray := by kernel_rfl
theorem and1N : ∀ m : Nat, m < 256 → bits BinOp.and .u8 (m : Int) 1 = (m : Int) % 2 := by decide +kernel
theorem and2N : ∀ m : Nat, m < 256 → bits BinOp.and .u8 (m : Int) 2 = if (m : Int) / 2 % 2 = 1 then 2 else 0 := by decide +kernel
theorem wrap64_of (x : Int) (h0 : 0 ≤ x) (h1 : x ≤ 100000) : wrap64 x = x := IntWalk.wrap64_in x ⟨by omega, by omega⟩
theorem p_two (m p : Nat) (h : (m : Int) % 2 = p) : (p : Int) = 0 ∨ (p : Int) = 1 := by omega
theorem r0_of (a p : Nat) (hp : (p : Int) = 0 ∨ (p : Int) = 1) (ha : a < 1400) : ∃ R : Nat, (a : Int) + 2000 * (p : Int) = R ∧ R ≤ 4000 := ⟨a + 2000 * p, by omega, by omega⟩
theorem two_p (p : Nat) (hp : (p : Int) = 0 ∨ (p : Int) = 1) : wrap64 (2000 * (p : Int)) = 2000 * (p : Int) := wrap64_of _ (by omega) (by omega)
theorem t_of (a T : Nat) (h : 1000 + (a : Int) = T) (ha : a < 1400) : 1000 ≤ T ∧ T < 2400 := by omega
theorem at_of (k m : Nat) : ∃ a : Nat, ((k : Int) * 7 + (m : Int) / 4 * 20).tmod 1400 = (a : Int) ∧ a < 1400 := by
  have hnn : (0 : Int) ≤ (k : Int) * 7 + (m : Int) / 4 * 20 := by omega
  rw [Int.tmod_eq_emod_of_nonneg hnn]
  exact ⟨(((k : Int) * 7 + (m : Int) / 4 * 20) % 1400).toNat, by omega, by omega⟩
theorem w_of (k m : Nat) (hk : k < 20) (hm : m < 256) : wrap64 ((m : Int) / 4) = (m : Int) / 4 ∧ wrap64 ((m : Int) / 4 * 20) = (m : Int) / 4 * 20 ∧ wrap64 ((k : Int) * 7 + (m : Int) / 4 * 20) = (k : Int) * 7 + (m : Int) / 4 * 20 :=
  ⟨wrap64_of _ (by omega) (by omega), wrap64_of _ (by omega) (by omega), wrap64_of _ (by omega) (by omega)⟩
theorem small_of (T : Nat) (h : T ≤ 100000) : wrap64 (T : Int) = T ∧ IntKind.u64.wrap (T : Int) = T := ⟨wrap64_of _ (by omega) (by omega), by rw [IntKind.wrap_u64]; omega⟩
theorem T_of (a : Nat) (ha : a < 1400) : ∃ T : Nat, (1000 : Int) + (a : Int) = (T : Int) ∧ T ≤ 100000 := ⟨1000 + a, by omega, by omega⟩
theorem P_of (m : Nat) : ∃ p : Nat, (m : Int) % 2 = (p : Int) ∧ p ≤ 100000 := ⟨m % 2, by omega, by omega⟩
theorem wa_of (a : Nat) (ha : a < 1400) : wrap64 (1000 + (a : Int)) = 1000 + (a : Int) := wrap64_of _ (by omega) (by omega)
theorem wt_of {i : Idn} (h : i.Ok) : wrap64 i.t = i.t := wrap64_of _ (by have := h.t0; omega) (by have := h.t1; omega)
theorem q4_of (R : Nat) (h : R ≤ 4000) : wrap64 ((R : Int) + 4000) = (R : Int) + 4000 := wrap64_of _ (by omega) (by omega)
/-- The name of the i-th user. -/
def nmOf (i : Nat) : ByteArray := strOfNums [97 + (i : Int)]
theorem nmOf_apart : ∀ k : Nat, k < 20 → ∀ j : Nat, j < k → nmOf j ≠ nmOf k := by decide +kernel
theorem nmOf_size : ∀ k : Nat, k < 20 → (nmOf k).size ≤ 1000 := by decide +kernel
theorem nmConv (w : World) (k : Nat) : (convert 22 9 (.slice (some ⟨w.heap.size, 0, none⟩) 1 1)).run Try.prog (w.alloc (.cells #[.int .u8 (97 + (k : Int))] 5)) = .ok (.string (nmOf k)) (w.alloc (.cells #[.int .u8 (97 + (k : Int))] 5)) :=
  run_convert_bytes_arg (P := Try.prog) (w.alloc (.cells #[.int .u8 (97 + (k : Int))] 5)) 22 5 Try.underlying22 Try.underlying5 w.heap.size 0 1 1 [97 + (k : Int)] rfl (fun i hi => by
    obtain rfl : i = 0 := by omega
    rw [cell_of_row _ _ _ _ _ _ (heap_alloc_new w _)]; rfl) 9 Try.underlying9
theorem IRow.put {w : World} {base hb i : Nat} {v u : Value} {l : List Idn} (h : IRow w base v l) (hh : hb < base) : IRow (w.setCell ⟨hb, i, none⟩ u) base v l := by
  have hc := (Chg.refl (fun b => b = hb) w).setCell (p := ⟨hb, i, none⟩) u (fun _ => rfl)
  obtain ⟨ps, hl, ho, hi⟩ := h
  refine ⟨ps, hl, row_chg ho hc (fun b hb' e => by have := (ho.lt b hb').1; omega), fun q hq => ?_⟩
  obtain ⟨a, b, c, d, e, f, g⟩ := hi q hq
  exact ⟨a.chg hc (by omega) (by omega), b, c, d, e, Nat.lt_of_lt_of_le f hc.size, Nat.lt_of_lt_of_le g hc.size⟩
theorem inSliceI (q : (Nat × Nat) × Idn) : Try.prog.builtSlice 43 1 [(0, .agg (icells q).toArray)] = some (icells q).toArray := by kernel_rfl
theorem and2a : ∀ m : Nat, m < 256 → (m : Int) / 2 % 2 = 1 → bits BinOp.and .u8 (m : Int) 2 = 2 := fun m h e => by rw [and2N m h, if_pos e]
theorem and2b : ∀ m : Nat, m < 256 → ¬ (m : Int) / 2 % 2 = 1 → bits BinOp.and .u8 (m : Int) 2 = 0 := fun m h e => by rw [and2N m h, if_neg e]
/-- Where the loop stands. -/
def PInv (W : World) (hb k : Nat) (l : List Idn) (iv bv mv : Value) (w : World) : Prop :=
  l.length = k ∧ IRow w (hb + 1) iv l ∧ Blk w hb 31 (hCells iv) ∧ Good nmOf l ∧ BestOf l bv mv ∧ Chg NoB W w
theorem r0_is (a T R p : Nat) (h : 1000 + (a : Int) = T) (hR : (a : Int) + 2000 * (p : Int) = R) : (R : Int) = (T : Int) - 1000 + 2000 * (p : Int) := by omega
theorem rank_true (nm : ByteArray) (T p R : Int) (h : R = T - 1000 + 2000 * p) : R = (⟨nm, T, p, true⟩ : Idn).rank - 1000 := by simp [Idn.rank]; omega
theorem rank_false (nm : ByteArray) (T p R : Int) (h : R = T - 1000 + 2000 * p) : R + 4000 = (⟨nm, T, p, false⟩ : Idn).rank - 1000 := by simp [Idn.rank]; omega
theorem u_true {wr wz : World} {b1 ub k : Nat} {T p : Int} (h1 : Blk wz b1 41 (inCellsP 19 T p)) (hu : Blk wz ub 43 [.string (nmOf k), .slice (some ⟨b1, 0, none⟩) 1 1, .slice none 0 0, .slice none 0 0]) (hc : Chg NoB wr wz) (h2 : wr.heap.size ≤ ub) (h3 : b1 < ub) :
    Blk ((wz.setCell ⟨ub, 2, none⟩ (.slice (some ⟨wz.heap.size, 0, none⟩) 1 1)).alloc (.cells (inCells 48 5000).toArray 41)) ub 43 (icells ((b1, wz.heap.size), ⟨nmOf k, T, p, true⟩)) ∧ IdSrc ((wz.setCell ⟨ub, 2, none⟩ (.slice (some ⟨wz.heap.size, 0, none⟩) 1 1)).alloc (.cells (inCells 48 5000).toArray 41)) ((b1, wz.heap.size), ⟨nmOf k, T, p, true⟩) ∧ Chg NoB wr ((wz.setCell ⟨ub, 2, none⟩ (.slice (some ⟨wz.heap.size, 0, none⟩) 1 1)).alloc (.cells (inCells 48 5000).toArray 41)) ∧ wr.heap.size ≤ wz.heap.size ∧ wz.heap.size < ((wz.setCell ⟨ub, 2, none⟩ (.slice (some ⟨wz.heap.size, 0, none⟩) 1 1)).alloc (.cells (inCells 48 5000).toArray 41)).heap.size := by
  have l1 := hu.lt
  have hs : (wz.setCell ⟨ub, 2, none⟩ (.slice (some ⟨wz.heap.size, 0, none⟩) 1 1)).heap.size = wz.heap.size := by simp [World.setCell]
  have hnew := Blk.new (wz.setCell ⟨ub, 2, none⟩ (.slice (some ⟨wz.heap.size, 0, none⟩) 1 1)) 41 (inCells 48 5000)
  rw [hs] at hnew
  exact ⟨(hu.set_ 2 _).alloc _, ⟨(h1.far (by simp; omega) _).alloc _, fun _ => hnew⟩, (hc.setCell (p := ⟨ub, 2, none⟩) _ (fun h => absurd (show ub < wr.heap.size from h) (by omega))).alloc _, hc.size, by simp [World.setCell]⟩
theorem u_false {wr wz : World} {b1 ub k : Nat} {T p : Int} (h1 : Blk wz b1 41 (inCellsP 19 T p)) (hu : Blk wz ub 43 [.string (nmOf k), .slice (some ⟨b1, 0, none⟩) 1 1, .slice none 0 0, .slice none 0 0]) (hc : Chg NoB wr wz) (h2 : wr.heap.size ≤ b1) :
    Blk wz ub 43 (icells ((b1, b1), ⟨nmOf k, T, p, false⟩)) ∧ IdSrc wz ((b1, b1), ⟨nmOf k, T, p, false⟩) ∧ Chg NoB wr wz ∧ wr.heap.size ≤ b1 ∧ b1 < wz.heap.size :=
  ⟨hu, ⟨h1, fun e => by cases e⟩, hc, h2, h1.lt⟩
theorem idn_ok (k : Nat) (T p : Nat) (rv : Bool) (hT : 1000 ≤ T ∧ T < 2400) (hp : (p : Int) = 0 ∨ (p : Int) = 1) : (⟨nmOf k, T, p, rv⟩ : Idn).Ok := ⟨by simp only; omega, by simp only; omega, hp⟩
end Go.Proofs.Ytdcamebmbadmbaa
