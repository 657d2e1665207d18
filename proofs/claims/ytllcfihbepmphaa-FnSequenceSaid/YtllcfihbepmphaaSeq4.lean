/- The contracts of NewSequenceVerifier, Valid, Next in the automaton's words, impl.Sequence. -/
import Derived.Test.YtllcfihbepmphaaSeq3
import Derived.Test.YtllcfihbepmphaaSeqP
set_option linter.unusedVariables false
set_option linter.unusedSimpArgs false
namespace Go.Proofs.Ytllcfihbepmphaa
open Go.RowKit V
def stk : Ph → List Int
  | .ahead k => [3] ++ List.replicate k 1 ++ [0]
  | .behind k => [3] ++ List.replicate k 1
def stq : Ph → Int
  | .ahead _ => 0
  | .behind _ => 2
def open_ : Ph → Nat
  | .ahead k => k
  | .behind k => k
/-- A verifier that isn't at its end. -/
def Stuck (w : World) (base g : Nat) : Prop := ∃ st q, Ver w base g NoB st q ∧ q ≠ 5
theorem stq_ne (p : Ph) : stq p ≠ 5 := by cases p <;> simp [stq]
theorem Ph.run_append (p : Ph) (a b : List Int) : Ph.run p (a ++ b) = (Ph.run p a).bind fun q => Ph.run q b := by
  induction a generalizing p with
  | nil => simp [Ph.run]
  | cons x a ih =>
    simp only [List.cons_append, Ph.run]
    cases p.next x with
    | none => simp
    | some q => simp [ih]
theorem Ph.run_one (p : Ph) (x : Int) : Ph.run p [x] = p.next x := by
  simp only [Ph.run]
  cases p.next x <;> simp
/-- What Next leaves, in the automaton's words. -/
def Stepped (w : World) (base g : Nat) (r : Option Ph) (e : Ending) (w' : World) : Prop :=
  Chg (fun b => b = g ∨ base ≤ b) w w' ∧ match r with
  | none => (∃ s, e = .returned (.iface 178 (.string s))) ∧ Stuck w' base g
  | some p => e = .returned .nilIface ∧ Ver w' base g NoB (stk p) (stq p)
theorem stepped_none {w : World} {base g : Nat} {st : List Int} {q : Int} (hq : q ≠ 5) : ∀ e w', NextPost w base g st q none e w' → Stepped w base g none e w' :=
  fun e w' h => ⟨h.1, h.2.1, st, q, h.2.2, hq⟩
theorem stepped_some {w : World} {base g : Nat} {st ps : List Int} {q q' : Int} {p : Ph} (h1 : st ++ ps = stk p) (h2 : q' = stq p) : ∀ e w', NextPost w base g st q (some (q', ps)) e w' → Stepped w base g (some p) e w' :=
  fun e w' h => ⟨h.1, h.2.1, by rw [← h1, ← h2]; exact h.2.2⟩
theorem next_ph (base g : Nat) (p : Ph) (x : Int) (w : World) (hv : Ver w base g NoB (stk p) (stq p)) (hb : base ≤ w.heap.size) (hk : open_ p ≤ 1048000) (hx : x = 0 ∨ x = 1 ∨ x = 2) :
    Calls Try.prog 21 #[.pointer (some ⟨g, 0, none⟩), .int .u8 x] w (Stepped w base g (p.next x)) := by
  cases p with
  | ahead k =>
    have hl : ([3] ++ List.replicate k (1 : Int)).length ≤ 1048570 := by simp [open_] at hk ⊢; omega
    have hT := fun w => fromOpen_any x 0 w (by omega)
    have hv2 : Ver w base g NoB (([3] ++ List.replicate k (1 : Int)) ++ [0]) 0 := hv
    rcases hx with rfl | rfl | rfl
    · exact (next_ok_open base g _ [] 0 0 2 w hv2 hb hl (by simp) hT).mono fun e w' h => stepped_some (by simp [stk]) rfl e w' h
    · exact (next_ok_open base g _ [0] 1 0 0 w hv2 hb hl (by simp) hT).mono fun e w' h => stepped_some (by simp [stk]) rfl e w' h
    · exact (next_ok_open base g _ [1, 0] 2 0 0 w hv2 hb hl (by simp) hT).mono fun e w' h => stepped_some (by simp [stk, List.replicate_succ']) rfl e w' h
  | behind k =>
    cases k with
    | zero =>
      have hv2 : Ver w base g NoB ([] ++ [3]) 2 := hv
      have hT := fun w => fromLit_any x 3 w
      have e : trLit x 3 = none := by rcases hx with rfl | rfl | rfl <;> simp [trLit]
      rw [e] at hT
      exact (next_err_lit base g _ x 3 w hv2 hb (by simp) hT).mono fun e w' h => stepped_none (by decide) e w' h
    | succ k =>
      have hl : ([3] ++ List.replicate k (1 : Int)).length ≤ 1048570 := by simp [open_] at hk ⊢; omega
      have hv2 : Ver w base g NoB (([3] ++ List.replicate k (1 : Int)) ++ [1]) 2 := by
        have h := hv
        simp only [stk, stq, List.replicate_succ', ← List.append_assoc] at h
        exact h
      have hT := fun w => fromLit_any x 1 w
      by_cases h1 : x = 1
      · subst h1
        exact (next_ok_lit base g _ [] 1 1 2 w hv2 hb hl (by simp) hT).mono fun e w' h => stepped_some (by simp [stk]) rfl e w' h
      · have e : trLit x 1 = none := by rcases hx with rfl | rfl | rfl <;> simp [trLit] <;> omega
        have e2 : Ph.next (.behind (k + 1)) x = none := by simp [Ph.next, h1]
        rw [e] at hT
        rw [e2]
        exact (next_err_lit base g _ x 1 w hv2 hb hl hT).mono fun e w' h => stepped_none (by decide) e w' h
theorem next_end_good (base g : Nat) (w : World) (hv : Ver w base g NoB (stk (.behind 0)) 2) (hb : base ≤ w.heap.size) :
    Calls Try.prog 21 #[.pointer (some ⟨g, 0, none⟩), .int .u8 6] w fun e w' => e = .returned .nilIface ∧ Ver w' base g NoB [] 5 ∧ Chg (fun b => b = g ∨ base ≤ b) w w' := by
  have hv2 : Ver w base g NoB ([] ++ [3]) 2 := hv
  exact (next_ok_lit base g _ [] 6 3 5 w hv2 hb (by simp) (by simp) (fun w => fromLit_any 6 3 w)).mono fun e w' h => ⟨h.2.1, h.2.2, h.1⟩
theorem next_end_bad (base g : Nat) (p : Ph) (w : World) (hv : Ver w base g NoB (stk p) (stq p)) (hb : base ≤ w.heap.size) (hk : open_ p ≤ 1048000) (hp : p ≠ .behind 0) :
    Calls Try.prog 21 #[.pointer (some ⟨g, 0, none⟩), .int .u8 6] w (Stepped w base g none) := by
  cases p with
  | ahead k =>
    have hl : ([3] ++ List.replicate k (1 : Int)).length ≤ 1048570 := by simp [open_] at hk ⊢; omega
    have hT := fun w => fromOpen_any 6 0 w (by omega)
    have hv2 : Ver w base g NoB (([3] ++ List.replicate k (1 : Int)) ++ [0]) 0 := hv
    exact (next_err_open base g _ 6 0 w hv2 hb hl hT).mono fun e w' h => stepped_none (by decide) e w' h
  | behind k =>
    cases k with
    | zero => exact absurd rfl hp
    | succ k =>
      have hl : ([3] ++ List.replicate k (1 : Int)).length ≤ 1048570 := by simp [open_] at hk ⊢; omega
      have hv2 : Ver w base g NoB (([3] ++ List.replicate k (1 : Int)) ++ [1]) 2 := by
        have h := hv
        simp only [stk, stq, List.replicate_succ', ← List.append_assoc] at h
        exact h
      exact (next_err_lit base g _ 6 1 w hv2 hb hl (fun w => fromLit_any 6 1 w)).mono fun e w' h => stepped_none (by decide) e w' h
set_option maxHeartbeats 1000000 in
theorem newVerifier_any (w : World) :
    Calls Try.prog 20 #[] w fun e w' => e = .returned (.pointer (some ⟨w.heap.size + 1, 0, none⟩)) ∧ Ver w' w.heap.size (w.heap.size + 1) NoB (stk (.ahead 0)) 0 ∧ Chg NoB w w' := by
  go_enter Try.func20, Try.ntmps20
  go_wp2
  go_ret
  refine ⟨rfl, ⟨.slice (some ⟨w.heap.size, 0, none⟩) 2 2, ?_, ?_, ?_⟩, ((Chg.refl NoB w).alloc _).alloc _⟩
  · have h := Blk.new (w.alloc (.cells (nums .i8 [3, 0]).toArray 113)) 117 [.slice (some ⟨w.heap.size, 0, none⟩) 2 2, .int .i8 0]
    rw [show (w.alloc (.cells (nums .i8 [3, 0]).toArray 113)).heap.size = w.heap.size + 1 from Array.size_push _] at h
    exact h
  · exact own_keep (own_lit w w.heap.size 113 .i8 [3, 0] (Nat.le_refl _) (by simp [maxLen])) ((Chg.refl NoB _).alloc _)
  · intro b hb
    simp [Value.ownBlock] at hb
    exact ⟨fun e => e, by omega⟩
set_option maxHeartbeats 1000000 in
theorem valid_yes (base g : Nat) (w : World) (hv : Ver w base g NoB [] 5) :
    Calls Try.prog 22 #[.pointer (some ⟨g, 0, none⟩)] w fun e w' => e = .returned (.bool true) ∧ w' = w := by
  obtain ⟨v, hb, ho, _⟩ := hv
  obtain ⟨A, c, rfl, _, _, _⟩ := own_form ho
  have c0 := hb.cell 0
  have c1 := hb.cell 1
  simp only [List.getElem?_cons_zero, List.getElem?_cons_succ] at c0 c1
  clear hb ho
  go_enter Try.func22, Try.ntmps22
  go_wp2
  go_ret
  exact ⟨rfl, rfl⟩
set_option maxHeartbeats 1000000 in
theorem valid_no (base g : Nat) (w : World) (hv : Stuck w base g) :
    Calls Try.prog 22 #[.pointer (some ⟨g, 0, none⟩)] w fun e w' => e = .returned (.bool false) ∧ w' = w := by
  obtain ⟨st, q, ⟨v, hb, ho, _⟩, hq⟩ := hv
  obtain ⟨A, c, rfl, _, _, _⟩ := own_form ho
  have c0 := hb.cell 0
  have c1 := hb.cell 1
  simp only [List.getElem?_cons_zero, List.getElem?_cons_succ] at c0 c1
  have hqb : (q == 5) = false := by simpa using hq
  clear hb ho
  go_enter Try.func22, Try.ntmps22
  go_wp2
  go_ret
  exact ⟨rfl, rfl⟩
end Go.Proofs.Ytllcfihbepmphaa
