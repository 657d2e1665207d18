/- What an AEAD's calls gave, in memory. -/
import Derived.Test.YthbgpbaneghmdaaFew
set_option linter.unusedVariables false
set_option linter.unusedSimpArgs false
namespace Go.Proofs.Ythbgpbaneghmdaa
open Go.RowKit V
def outCells (p : Sl × Bool) : List Value := [.slice p.1.1 p.1.2.1 p.1.2.2, .bool p.2]
theorem infoOut : (Try.prog.info? 76).map (fun i => (i.zero, i.size, i.bytes)) = some (some (.agg #[.slice none 0 0, .bool false]), 2, 32) := by kernel_rfl
/-- A row of the call's own of what calls gave. -/
def Outs (w : World) (base : Nat) (v : Value) (l : List (List Int × Bool)) : Prop :=
  ∃ vs : List (Sl × Bool), vs.length = l.length ∧ w.ownsRow base 76 2 v l.length (vs.flatMap outCells) ∧ ∀ (i : Nat) (p : Sl × Bool) (x : List Int × Bool), vs[i]? = some p → l[i]? = some x → p.2 = x.2 ∧ Pz (fun b => v.ownBlock ≠ some b) w p.1 x.1
theorem Outs.nil (w : World) (base : Nat) : Outs w base (.slice none 0 0) [] :=
  ⟨[], rfl, World.ownsRow_nil _ _ _ _, fun i p x h => by simp at h⟩
theorem Outs.keep {w w' : World} {base : Nat} {v : Value} {l : List (List Int × Bool)} (h : Outs w base v l) (hc : Chg NoB w w') : Outs w' base v l := by
  obtain ⟨vs, h1, h2, h3⟩ := h
  exact ⟨vs, h1, row_keep h2 hc, fun i p x a b => ⟨(h3 i p x a b).1, (h3 i p x a b).2.chg hc (fun _ _ _ e => e)⟩⟩
/-- What an append of one more leaves. -/
theorem Outs.snoc {w w1 : World} {base : Nat} {v v1 : Value} {l : List (List Int × Bool)} {vs : List (Sl × Bool)} {p : Sl × Bool} {x : List Int × Bool}
    (hl : vs.length = l.length) (ho : w.ownsRow base 76 2 v l.length (vs.flatMap outCells)) (hi : ∀ (i : Nat) (p : Sl × Bool) (x : List Int × Bool), vs[i]? = some p → l[i]? = some x → p.2 = x.2 ∧ Pz (fun b => v.ownBlock ≠ some b) w p.1 x.1)
    (hp : p.2 = x.2) (hs : Pz (fun b => v.ownBlock ≠ some b) w p.1 x.1)
    (h2 : w1.ownsRow base 76 2 v1 (l.length + 1) (vs.flatMap outCells ++ outCells p)) (h3 : w.grownBy w1 v.ownBlock) (h5 : v1.ownBlock = v.ownBlock ∨ v1.ownBlock = some w.heap.size) :
    Outs w1 base v1 (l ++ [x]) := by
  have hf : ∀ (q : Sl) (xs : List Int), Pz (fun b => v.ownBlock ≠ some b) w q xs → Pz (fun b => v1.ownBlock ≠ some b) w1 q xs := fun q xs h =>
    ((h.mono (K' := fun b => v.ownBlock ≠ some b ∧ b < w.heap.size) (fun b hb hn => ⟨hn, hb⟩)).chg (grown_chg h3) (fun b hb hn e => hn.1 e)).mono (fun b hb hn => by
      rcases h5 with h5 | h5
      · rw [h5]; exact hn.1
      · rw [h5]; intro e; injection e with e; have := hn.2; omega)
  refine ⟨vs ++ [p], by simp [hl], ?_, fun i q y hq hy => ?_⟩
  · rw [List.length_append, List.flatMap_append]
    simpa using h2
  · rcases Nat.lt_or_ge i vs.length with h | h
    · rw [List.getElem?_append_left h] at hq
      rw [List.getElem?_append_left (by omega)] at hy
      exact ⟨(hi i q y hq hy).1, hf _ _ (hi i q y hq hy).2⟩
    · rw [List.getElem?_append_right h] at hq
      rw [List.getElem?_append_right (by omega)] at hy
      rw [hl] at hq
      have : i - l.length = 0 := by
        rcases Nat.eq_zero_or_pos (i - l.length) with h0 | h0
        · exact h0
        · rw [List.getElem?_eq_none (by simp; omega)] at hq; cases hq
      rw [this] at hq hy
      simp at hq hy
      subst hq hy
      exact ⟨hp, hf _ _ hs⟩
/-- What a call gives. -/
def outOf (perm sub mask : List Int) (x : Cal) : List Int × Bool :=
  if x.op then (match eaxOpenL perm sub mask x.n x.t x.h with | none => ([], false) | some xs => (xs, true)) else (eaxSealL perm sub mask x.n x.t x.h, true)
theorem na_ns (a : Addr) (w : World) : (nilAhead 285 86 (.pointer (some a)) "NonceSize").run Try.prog w = .ok (some false) w := by kernel_rfl
theorem me_ns (a : Addr) (w : World) : (method 285 86 (.pointer (some a)) "NonceSize").run Try.prog w = .ok (93, .pointer (some a)) w := by kernel_rfl
theorem na_se (a : Addr) (w : World) : (nilAhead 285 86 (.pointer (some a)) "Seal").run Try.prog w = .ok (some false) w := by kernel_rfl
theorem me_se (a : Addr) (w : World) : (method 285 86 (.pointer (some a)) "Seal").run Try.prog w = .ok (96, .pointer (some a)) w := by kernel_rfl
theorem na_op (a : Addr) (w : World) : (nilAhead 285 86 (.pointer (some a)) "Open").run Try.prog w = .ok (some false) w := by kernel_rfl
theorem me_op (a : Addr) (w : World) : (method 285 86 (.pointer (some a)) "Open").run Try.prog w = .ok (94, .pointer (some a)) w := by kernel_rfl
theorem nonceSize_any {w : World} {E B : Nat} (hE : Eax w E B 16 16) : Calls Try.prog 93 #[.pointer (some ⟨E, 0, none⟩)] w fun e w' => e = .returned (.int .i64 16) ∧ w' = w := by
  have x2 := hE.cell 2
  simp only [List.getElem?_cons_zero, List.getElem?_cons_succ] at x2
  clear hE
  go_enter Try.func93, Try.ntmps93
  go_wp2_with fail
  go_ret
  exact ⟨rfl, rfl⟩
end Go.Proofs.Ythbgpbaneghmdaa
