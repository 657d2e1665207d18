/- Words for FnPrimary: maps of identities by their names; rows of identities as data. -/
import Derived.Test.YtdcamebmbadmbaaPrimB
import Derived.Maps.RangeWalk
set_option linter.unusedVariables false
set_option linter.unusedSimpArgs false
namespace Go.Proofs.Ytdcamebmbadmbaa
open Go.RowKit V
/-- A holder's cells, v its identities. -/
def hCells (v : Value) : List Value := [.int .i64 0, .int .u64 0, .int .u8 0, .slice none 0 0, .slice none 0 0, .int .u64 0, .int .i64 0, .bool false, .bool false, v, .slice none 0 0, .slice none 0 0, .slice none 0 0, .slice none 0 0]
theorem many_nil (w : World) : Calls Try.prog 9 #[.slice none 0 0] w fun e w' => ∃ A c, e = .returned (.slice A 0 c) ∧ Chg NoB w w' :=
  (many_any 0 (.slice none 0 0) [] w (World.ownsRow_nil _ _ _ _) (by simp) (fun p hp => by cases hp)).mono fun e w' ⟨v, he, hc, hm⟩ => by
    obtain ⟨A, c, rfl, _⟩ := hm.at_
    exact ⟨A, c, he, hc⟩
/-- A pointer to a block's beginning reads as the block's number. -/
def ptrElem : Value → Option (DataW Unit × List MemPlace)
  | .pointer (some ⟨g, 0, none⟩) => some (.lit (.int .i64 g), [])
  | _ => none
/-- A map of identities by their names. -/
abbrev OwnM (w : World) (b n : Nat) (D : DataW Unit) : Prop := w.ownsMap Try.prog 9 ptrElem b n D
theorem OwnM.keep {w w' : World} {b n : Nat} {D : DataW Unit} (h : OwnM w b n D) (hc : Chg NoB w w') : OwnM w' b n D := by
  have hlt := h.lt
  obtain ⟨es, clock, hb, F, hs, hD⟩ := h
  exact ⟨es, clock, (hc.block b hlt (fun e => e)).trans hb, F, hs, hD⟩
theorem ownM_made (w : World) : OwnM (w.alloc (.map #[] 0)) w.heap.size 0 (.map []) := World.ownsMap_made _ _ _ _
/-- An entity that has just been made. -/
def EntAt (w : World) (ge mb n : Nat) (D : DataW Unit) : Prop :=
  ∃ PK A1 c1 A2 c2, Blk w ge 66 [.pointer PK, .pointer none, .map (some mb), .slice A1 0 c1, .slice none 0 0, .pointer none, .slice A2 0 c2] ∧ OwnM w mb n D
theorem entAt_new (w : World) (ge mb n : Nat) (D : DataW Unit) (PK A1 A2 : Option Addr) (c1 c2 : Nat) (hg : ge = w.heap.size) (h : OwnM w mb n D) :
    EntAt (w.alloc (.cells #[.pointer PK, .pointer none, .map (some mb), .slice A1 0 c1, .slice none 0 0, .pointer none, .slice A2 0 c2] 66)) ge mb n D := by
  subst hg
  exact ⟨PK, A1, c1, A2, c2, Blk.new w _ [.pointer PK, .pointer none, .map (some mb), .slice A1 0 c1, .slice none 0 0, .pointer none, .slice A2 0 c2], h.keep ((Chg.refl _ _).alloc _)⟩
theorem first_noneC (A : Option Addr) (c : Nat) (w : World) : Calls Try.prog 13 #[.slice A 0 c] w fun e w' => e = .returned (.pointer none) ∧ Chg NoB w w' :=
  (first_none A c w).mono fun e w' h => ⟨h.1, by rw [h.2]; exact Chg.refl _ _⟩
theorem snocInd {α : Type} {motive : List α → Prop} (nil : motive []) (snoc : ∀ l a, motive l → motive (l ++ [a])) (l : List α) : motive l := by
  have h : ∀ l : List α, motive l.reverse := fun l => by
    induction l with
    | nil => exact nil
    | cons a l ih => rw [List.reverse_cons]; exact snoc _ _ ih
  have := h l.reverse
  rwa [List.reverse_reverse] at this
/-! ### what the map reads as -/
def nmKey (i : Idn) : Lit := .string i.nm.data.toList
theorem nmKey_ok (i : Idn) : WideAt.IsKeyLit (nmKey i) := trivial
theorem nmKey_ne {i j : Idn} (h : i.nm ≠ j.nm) : nmKey i ≠ nmKey j := fun e => h (by
  injection e with e
  cases i with | mk a _ _ _ => cases j with | mk b _ _ _ =>
    cases a; cases b
    simp only [ByteArray.mk.injEq] at h ⊢
    simpa using e)
def mapD : List (Nat × Idn) → DataW Unit := fun l => l.foldl (fun D q => D.put (nmKey q.2) (.lit (.int .i64 q.1))) (.map [])
theorem mapD_snoc (l : List (Nat × Idn)) (q : Nat × Idn) : mapD (l ++ [q]) = (mapD l).put (nmKey q.2) (.lit (.int .i64 q.1)) := by simp [mapD]
theorem mapD_is : ∀ l, Maps.IsMap (mapD l) := fun l => by
  refine snocInd (motive := fun l => Maps.IsMap (mapD l)) Maps.isMap_empty (fun l q ih => ?_) l
  rw [mapD_snoc]; exact ih.put _ _
/-- No name stands twice. -/
def Apart (l : List Idn) : Prop := l.Pairwise fun i j => i.nm ≠ j.nm
theorem mapD_has {l : List (Nat × Idn)} {k : Lit} (h : Maps.has (mapD l) k = true) : ∃ q ∈ l, k = nmKey q.2 := by
  revert h
  refine snocInd (motive := fun l => Maps.has (mapD l) k = true → ∃ q ∈ l, k = nmKey q.2) (fun h => by simp [mapD, Maps.has] at h) (fun l q ih h => ?_) l
  by_cases e : k = nmKey q.2
  · exact ⟨q, by simp, e⟩
  · rw [mapD_snoc, Maps.has_put_other e] at h
    obtain ⟨p, hp, e⟩ := ih h
    exact ⟨p, by simp [hp], e⟩
theorem mapD_at {l : List (Nat × Idn)} (ha : Apart (l.map Prod.snd)) {q : Nat × Idn} (hq : q ∈ l) (z : DataW Unit) : (mapD l).atKey (nmKey q.2) z = .lit (.int .i64 q.1) := by
  revert ha hq
  refine snocInd (motive := fun l => Apart (l.map Prod.snd) → q ∈ l → (mapD l).atKey (nmKey q.2) z = .lit (.int .i64 q.1)) (fun _ h => by cases h) (fun l p ih ha hq => ?_) l
  rw [List.map_append] at ha
  have hap := List.pairwise_append.1 ha
  rw [mapD_snoc]
  rcases List.mem_append.1 hq with h | h
  · rw [Maps.atKey_put_other (nmKey_ne (hap.2.2 q.2 (List.mem_map.2 ⟨q, h, rfl⟩) p.2 (by simp)))]
    exact ih hap.1 h
  · simp at h
    subst h
    exact Maps.atKey_put_same (mapD_is l) (nmKey_ok _) _ _
/-! ### a row of identities as data -/
/-- Where the signatures of an identity lie: its self signature, its revocation. -/
def icells (q : (Nat × Nat) × Idn) : List Value :=
  [.string q.2.nm, .slice (some ⟨q.1.1, 0, none⟩) 1 1, if q.2.rv then .slice (some ⟨q.1.2, 0, none⟩) 1 1 else .slice none 0 0, .slice none 0 0]
def IdSrc (w : World) (q : (Nat × Nat) × Idn) : Prop := Blk w q.1.1 41 (inCellsP 19 q.2.t q.2.p) ∧ (q.2.rv = true → Blk w q.1.2 41 (inCells 48 5000))
theorem IdSrc.chg {w w' : World} {S : Nat → Prop} {q : (Nat × Nat) × Idn} (h : IdSrc w q) (hc : Chg S w w') (h1 : ¬ S q.1.1) (h2 : ¬ S q.1.2) : IdSrc w' q := ⟨h.1.chg hc h1, fun e => (h.2 e).chg hc h2⟩
def IRow (w : World) (base : Nat) (v : Value) (l : List Idn) : Prop :=
  ∃ ps : List ((Nat × Nat) × Idn), ps.map Prod.snd = l ∧ w.ownsRow base 43 4 v l.length (ps.flatMap icells) ∧ ∀ q ∈ ps, IdSrc w q ∧ v.ownBlock ≠ some q.1.1 ∧ v.ownBlock ≠ some q.1.2 ∧ base ≤ q.1.1 ∧ base ≤ q.1.2 ∧ q.1.1 < w.heap.size ∧ q.1.2 < w.heap.size
theorem IRow.nil (w : World) (base : Nat) : IRow w base (.slice none 0 0) [] := ⟨[], rfl, World.ownsRow_nil _ _ _ _, fun q hq => by cases hq⟩
theorem IRow.keep {w w' : World} {base : Nat} {v : Value} {l : List Idn} (h : IRow w base v l) (hc : Chg NoB w w') : IRow w' base v l := by
  obtain ⟨ps, hl, ho, hi⟩ := h
  refine ⟨ps, hl, row_keep ho hc, fun q hq => ?_⟩
  obtain ⟨a, b, c, d, e, f, g⟩ := hi q hq
  exact ⟨a.chg hc (fun e => e) (fun e => e), b, c, d, e, Nat.lt_of_lt_of_le f hc.size, Nat.lt_of_lt_of_le g hc.size⟩
theorem IRow.at_ {w : World} {base : Nat} {v : Value} {l : List Idn} (h : IRow w base v l) :
    ∃ A c, v = .slice A l.length c ∧ l.length ≤ c ∧ l.length ≤ 9223372036854775807 ∧ ∀ (i : Nat) (it : Idn), l[i]? = some it → ∃ (g b1 b2 : Nat), A = some ⟨g, 0, none⟩ ∧ g < w.heap.size ∧ w.rangeAt g (i * 4) (icells ((b1, b2), it)) ∧ IdSrc w ((b1, b2), it) := by
  obtain ⟨ps, hl, ho, hi⟩ := h
  obtain ⟨A, c, hv, hc, hm, hg⟩ := row_form ho
  refine ⟨A, c, hv, hc, hm, fun i it hit => ?_⟩
  have hil : i < l.length := (List.getElem?_eq_some_iff.1 hit).1
  obtain ⟨g, hA, hb, hlt, hob, hcell⟩ := hg (by omega)
  have hpl : ps.length = l.length := by rw [← hl]; simp
  have hps : ps[i]? = some ps[i] := List.getElem?_eq_getElem (by omega)
  have hit2 : ps[i].2 = it := by
    rw [← hl, List.getElem?_map, hps] at hit
    simpa using hit
  obtain ⟨q, hq⟩ : ∃ q, q = ps[i] := ⟨_, rfl⟩
  rw [← hq] at hit2 hps
  obtain ⟨⟨b1, b2⟩, it'⟩ := q
  simp only at hit2
  subst hit2
  refine ⟨g, b1, b2, hA, hlt, fun j u hu => hcell _ _ ?_, (hi _ (List.mem_of_getElem? hps)).1⟩
  have hj : j < 4 := (List.getElem?_eq_some_iff.1 hu).1
  rw [flat_at icells 4 (fun _ => rfl) ps i _ j hps hj]
  exact hu
end Go.Proofs.Ytdcamebmbadmbaa
