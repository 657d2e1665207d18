/- From the printed contracts' words to those of V. -/
import Derived.Test.YtmakkjkbonnjgaaBase
import Derived.Test.YtmakkjkbonnjgaaWWords
import Derived.Test.YtmakkjkbonnjgaaWMore
set_option linter.unusedVariables false
set_option linter.unusedSimpArgs false
namespace Go.Proofs.Ytmakkjkbonnjgaa
open Go.RowKit V Go.Proofs.YtmakkjkbonnjgaaW.PrintWords
theorem rk_reads {k : IntKind} {w : World} {A : Option Addr} {xs : List Int} (h : Rk k w A xs) : ReadsInt w k A xs.length xs :=
  ⟨rfl, h.1, fun hn => by obtain ⟨ad, e, _, hc⟩ := h.2 hn; exact ⟨ad, e, hc⟩⟩
theorem rk_C {k : IntKind} {w : World} {A : Option Addr} {xs : List Int} (h : Rk k w A xs) : Kd.C (Kd.int k) w A xs.length xs := Kd.C_of_reads (d := (0 : Int)) (h1 := fun _ => rfl) (rk_reads h)
theorem own_of_R {k : IntKind} {e : Nat} {w : World} {base : Nat} {ok : Nat → Prop} {v : Value} {xs : List Int} (h : Kd.R (Kd.int k) e w base ok v xs) : Own w base e k v xs := by
  obtain ⟨_, inner, ho, hr⟩ := h
  have hi : inner = V.nums k xs := by
    have hlen : inner.length = xs.length := by have := hr.1; simpa [Kd.int, Kd.scalar] using this
    apply List.ext_getElem?
    intro j
    by_cases hj : j < xs.length
    · have := hr.2 j xs[j] (List.getElem?_eq_getElem hj)
      simp only [Kd.int, Kd.scalar, Nat.mul_one] at this
      have h2 : ((inner.drop j).take 1)[0]? = some (Value.int k xs[j]) := by rw [this]; rfl
      rw [List.getElem?_take, if_pos (by omega), List.getElem?_drop] at h2
      rw [Nat.add_zero] at h2
      rw [h2]
      simp [V.nums, List.getElem?_eq_getElem hj]
    · rw [List.getElem?_eq_none (by omega), List.getElem?_eq_none (by rw [V.nums_length]; omega)]
  subst hi
  exact ho
theorem gives_of {w w' : World} {e : Ending} {r : List Int} (h : ∃ v0_ : Value, e = .returned v0_ ∧ Kd.R (Kd.int .u8) 5 w' w.heap.size (fun _ => True) v0_ r ∧ Below w.heap.size w w') : Gives NoB w r e w' := by
  obtain ⟨v, he, hr, hb⟩ := h
  exact ⟨v, he, own_of_R hr, Chg.of_below hb⟩
end Go.Proofs.Ytmakkjkbonnjgaa
