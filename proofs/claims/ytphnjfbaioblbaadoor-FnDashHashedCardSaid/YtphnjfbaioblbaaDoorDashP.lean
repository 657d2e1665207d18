/- A dash escaper's hashed text in plain words: the loop's step; it is the lines, trimmed, 13 10 between any two, no line end at the end. -/
import Derived.Test.YtphnjfbaioblbaaDoorPure
set_option linter.unusedVariables false
set_option linter.unusedSimpArgs false
namespace Go.Proofs.YtphnjfbaioblbaaDoor
def blankB (c : Int) : Bool := c == 32 || (c == 9 || c == 13)
/-- A line without blanks at its end. -/
def trimL (l : List Int) : List Int := (l.reverse.dropWhile blankB).reverse
/-- The lines: those that are ended, the one under way. -/
def splitStep (p : List (List Int) × List Int) (c : Int) : List (List Int) × List Int :=
  if c = 10 then (p.1 ++ [p.2], []) else (p.1, p.2 ++ [c])
def splits (t : List Int) : List (List Int) × List Int := t.foldl splitStep ([], [])
def linesL (t : List Int) : List (List Int) := (splits t).1 ++ [(splits t).2]
/-- What is hashed of lines. -/
def signStep (o : List Int × Bool) (l : List Int) : List Int × Bool := ((if o.2 then o.1 ++ [13, 10] else o.1) ++ trimL l, true)
def signS (ls : List (List Int)) : List Int := (ls.foldl signStep ([], false)).1
def unendedL (t : List Int) : List Int := if t.getLast? = some 10 then t.dropLast else t
theorem sign_flag (ls : List (List Int)) : (ls.foldl signStep ([], false)).2 = !ls.isEmpty := by
  rcases List.eq_nil_or_concat ls with h | ⟨l, x, rfl⟩
  · subst h; rfl
  · rw [List.concat_eq_append, List.foldl_append]
    cases l <;> rfl
theorem signS_snoc (ls : List (List Int)) (l : List Int) : signS (ls ++ [l]) = (if ls = [] then [] else signS ls ++ [13, 10]) ++ trimL l := by
  unfold signS
  rw [List.foldl_append]
  show (if (ls.foldl signStep ([], false)).2 then (ls.foldl signStep ([], false)).1 ++ [13, 10] else (ls.foldl signStep ([], false)).1) ++ trimL l = _
  rw [sign_flag]
  cases ls
  · rfl
  · rfl
/-- The escaper's state: at a line's beginning, at the first one, blanks held back, what is hashed. -/
structure Dst where
  beg : Bool
  fst : Bool
  ws : List Int
  out : List Int
def dashStep (d : Dst) (b : Int) : Dst :=
  let o1 := if d.beg && !d.fst then d.out ++ [13, 10] else d.out
  let f1 := if d.beg then false else d.fst
  if blankB b then ⟨false, f1, d.ws ++ [b], o1⟩
  else if d.beg then (if b = 10 then ⟨true, f1, d.ws, o1⟩ else ⟨false, f1, d.ws, o1 ++ [b]⟩)
  else if b = 10 then ⟨true, f1, [], o1⟩ else ⟨false, f1, [], o1 ++ d.ws ++ [b]⟩
def dash0 : Dst := ⟨true, true, [], []⟩
def dashed (t : List Int) : Dst := t.foldl dashStep dash0
theorem blank_ten : blankB 10 = false := by decide
theorem trimL_nil : trimL [] = [] := rfl
theorem trimL_blank (l : List Int) (b : Int) (h : blankB b = true) : trimL (l ++ [b]) = trimL l := by
  simp [trimL, List.dropWhile, h]
theorem trimL_other (l : List Int) (b : Int) (h : blankB b = false) : trimL (l ++ [b]) = l ++ [b] := by
  simp [trimL, List.dropWhile, h]
/-- The state against the lines. -/
structure DInv (p : List (List Int) × List Int) (d : Dst) : Prop where
  beg : d.beg = decide (p.2 = [])
  fst : d.fst = decide (p.1 = [] ∧ p.2 = [])
  atBeg : p.2 = [] → d.ws = [] ∧ d.out = signS p.1
  within : p.2 ≠ [] → d.out = signS (p.1 ++ [p.2]) ∧ p.2 = trimL p.2 ++ d.ws
theorem dinv_step (p : List (List Int) × List Int) (d : Dst) (b : Int) (h : DInv p d) : DInv (splitStep p b) (dashStep d b) := by
  obtain ⟨acc, cur⟩ := p
  obtain ⟨beg, fst, ws, out⟩ := d
  obtain ⟨h1, h2, h3, h4⟩ := h
  simp only at h1 h2 h3 h4
  by_cases hc : cur = []
  · subst hc
    obtain ⟨rfl, rfl⟩ := h3 rfl
    have hb : beg = true := by rw [h1]; simp
    have hf : fst = decide (acc = []) := by rw [h2]; simp
    subst hb
    have ho : (if (true && !fst) = true then signS acc ++ [13, 10] else signS acc) = (if acc = [] then [] else signS acc ++ [13, 10]) := by
      rw [hf]
      by_cases ha : acc = []
      · subst ha; rfl
      · simp [ha]
    by_cases hbl : blankB b = true
    · have hn : b ≠ 10 := by intro e; subst e; exact absurd hbl (by decide)
      have e1 : dashStep ⟨true, fst, [], signS acc⟩ b = ⟨false, false, [] ++ [b], if acc = [] then [] else signS acc ++ [13, 10]⟩ := by
        unfold dashStep; simp only [hbl, if_true, ho]
      have e2 : splitStep (acc, []) b = (acc, [] ++ [b]) := by unfold splitStep; rw [if_neg hn]
      rw [e1, e2]
      refine ⟨by simp, by simp, fun e => by simp at e, fun _ => ⟨?_, ?_⟩⟩
      · show _ = signS (acc ++ [[] ++ [b]])
        rw [signS_snoc, trimL_blank _ _ hbl, trimL_nil, List.append_nil]
      · show [] ++ [b] = trimL ([] ++ [b]) ++ ([] ++ [b])
        rw [trimL_blank _ _ hbl, trimL_nil]; rfl
    · have hbl' : blankB b = false := by simpa using hbl
      by_cases h10 : b = 10
      · subst h10
        have e1 : dashStep ⟨true, fst, [], signS acc⟩ 10 = ⟨true, false, [], if acc = [] then [] else signS acc ++ [13, 10]⟩ := by
          unfold dashStep; simp only [hbl', if_true, ho]; rfl
        have e2 : splitStep (acc, []) 10 = (acc ++ [[]], []) := rfl
        rw [e1, e2]
        refine ⟨by simp, by simp, fun _ => ⟨rfl, ?_⟩, fun e => absurd rfl e⟩
        show _ = signS (acc ++ [[]])
        rw [signS_snoc, trimL_nil, List.append_nil]
      · have e1 : dashStep ⟨true, fst, [], signS acc⟩ b = ⟨false, false, [], (if acc = [] then [] else signS acc ++ [13, 10]) ++ [b]⟩ := by
          unfold dashStep; simp only [hbl', if_true, if_neg h10, ho]; rfl
        have e2 : splitStep (acc, []) b = (acc, [] ++ [b]) := by unfold splitStep; rw [if_neg h10]
        rw [e1, e2]
        refine ⟨by simp, by simp, fun e => by simp at e, fun _ => ⟨?_, ?_⟩⟩
        · show _ = signS (acc ++ [[] ++ [b]])
          rw [signS_snoc, trimL_other _ _ hbl']; rfl
        · show [] ++ [b] = trimL ([] ++ [b]) ++ []
          rw [trimL_other _ _ hbl', List.append_nil]
  · obtain ⟨rfl, hw⟩ := h4 hc
    have hb : beg = false := by rw [h1]; simp [hc]
    have hf : fst = false := by rw [h2]; simp [hc]
    subst hb hf
    by_cases hbl : blankB b = true
    · have hn : b ≠ 10 := by intro e; subst e; exact absurd hbl (by decide)
      have e1 : dashStep ⟨false, false, ws, signS (acc ++ [cur])⟩ b = ⟨false, false, ws ++ [b], signS (acc ++ [cur])⟩ := by
        unfold dashStep; simp [hbl]
      have e2 : splitStep (acc, cur) b = (acc, cur ++ [b]) := by unfold splitStep; rw [if_neg hn]
      rw [e1, e2]
      refine ⟨by simp, by simp, fun e => by simp at e, fun _ => ⟨?_, ?_⟩⟩
      · show signS (acc ++ [cur]) = signS (acc ++ [cur ++ [b]])
        rw [signS_snoc, signS_snoc, trimL_blank _ _ hbl]
      · show cur ++ [b] = trimL (cur ++ [b]) ++ (ws ++ [b])
        rw [trimL_blank _ _ hbl, ← List.append_assoc, ← hw]
    · have hbl' : blankB b = false := by simpa using hbl
      by_cases h10 : b = 10
      · subst h10
        have e1 : dashStep ⟨false, false, ws, signS (acc ++ [cur])⟩ 10 = ⟨true, false, [], signS (acc ++ [cur])⟩ := by
          unfold dashStep; simp [hbl']
        have e2 : splitStep (acc, cur) 10 = (acc ++ [cur], []) := rfl
        rw [e1, e2]
        exact ⟨by simp, by simp, fun _ => ⟨rfl, rfl⟩, fun e => absurd rfl e⟩
      · have e1 : dashStep ⟨false, false, ws, signS (acc ++ [cur])⟩ b = ⟨false, false, [], signS (acc ++ [cur]) ++ ws ++ [b]⟩ := by
          unfold dashStep; simp [hbl', h10]
        have e2 : splitStep (acc, cur) b = (acc, cur ++ [b]) := by unfold splitStep; rw [if_neg h10]
        rw [e1, e2]
        refine ⟨by simp, by simp, fun e => by simp at e, fun _ => ⟨?_, ?_⟩⟩
        · show signS (acc ++ [cur]) ++ ws ++ [b] = signS (acc ++ [cur ++ [b]])
          rw [signS_snoc, signS_snoc, trimL_other _ _ hbl', List.append_assoc _ _ ws, ← hw, List.append_assoc]
        · show cur ++ [b] = trimL (cur ++ [b]) ++ []
          rw [trimL_other _ _ hbl', List.append_nil]
theorem dinv_all (t : List Int) : DInv (splits t) (dashed t) := by
  have key : ∀ (t : List Int) p d, DInv p d → DInv (t.foldl splitStep p) (t.foldl dashStep d) := by
    intro t
    induction t with
    | nil => exact fun p d h => h
    | cons b t ih => exact fun p d h => ih _ _ (dinv_step p d b h)
  exact key t _ _ ⟨rfl, rfl, fun _ => ⟨rfl, rfl⟩, fun e => absurd rfl e⟩
theorem splits_snoc (t : List Int) (c : Int) : splits (t ++ [c]) = splitStep (splits t) c := by
  unfold splits; rw [List.foldl_append]; rfl
theorem dashed_snoc (t : List Int) (c : Int) : dashed (t ++ [c]) = dashStep (dashed t) c := by
  unfold dashed; rw [List.foldl_append]; rfl
/-- What is hashed of a text: its lines, trimmed, without a line end at the end. -/
theorem dashed_signed (t : List Int) : (dashed t).out = signS (linesL (unendedL t)) := by
  have h := dinv_all t
  rcases List.eq_nil_or_concat t with e | ⟨t', c, e⟩
  · subst e; rfl
  · rw [List.concat_eq_append] at e
    subst e
    by_cases h10 : c = 10
    · subst h10
      have hs : splits (t' ++ [10]) = (linesL t', []) := by rw [splits_snoc]; rfl
      have hu : unendedL (t' ++ [10]) = t' := by unfold unendedL; rw [if_pos (by simp)]; simp
      rw [hs] at h
      rw [hu, (h.atBeg rfl).2]
    · have hs : splits (t' ++ [c]) = ((splits t').1, (splits t').2 ++ [c]) := by rw [splits_snoc]; unfold splitStep; rw [if_neg h10]
      have hu : unendedL (t' ++ [c]) = t' ++ [c] := by unfold unendedL; rw [if_neg (by simpa using h10)]
      rw [hu]
      exact (h.within (by rw [hs]; simp)).1
theorem dashStep_len (d : Dst) (b : Int) : (dashStep d b).ws.length ≤ d.ws.length + 1 ∧ (dashStep d b).out.length + (dashStep d b).ws.length ≤ d.out.length + d.ws.length + 3 := by
  obtain ⟨beg, fst, ws, out⟩ := d
  unfold dashStep
  cases beg <;> cases fst <;> by_cases h1 : blankB b = true <;> by_cases h2 : b = 10 <;> simp [h1, h2] <;> (try (split <;> simp)) <;> omega
/-- How long the state grows. -/
theorem dashed_len (t : List Int) : (dashed t).ws.length ≤ t.length ∧ (dashed t).out.length + (dashed t).ws.length ≤ 3 * t.length := by
  have key : ∀ (t : List Int) d, (t.foldl dashStep d).ws.length ≤ d.ws.length + t.length ∧ (t.foldl dashStep d).out.length + (t.foldl dashStep d).ws.length ≤ d.out.length + d.ws.length + 3 * t.length := by
    intro t
    induction t with
    | nil => intro d; simp
    | cons b t ih =>
      intro d
      have h := dashStep_len d b
      have h2 := ih (dashStep d b)
      simp only [List.foldl_cons, List.length_cons]
      omega
  have h := key t dash0
  simp only [dash0, List.length_nil] at h
  unfold dashed dash0
  omega
end Go.Proofs.YtphnjfbaioblbaaDoor
