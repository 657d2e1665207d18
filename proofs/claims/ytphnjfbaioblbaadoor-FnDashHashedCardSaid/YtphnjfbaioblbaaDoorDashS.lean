/- The contracts of spec.blank, spec.TrimmedLine, laws.unended. -/
import Derived.Test.YtphnjfbaioblbaaDoorBase
import Derived.Test.YtphnjfbaioblbaaDoorDashP
set_option linter.unusedVariables false
set_option linter.unusedSimpArgs false
namespace Go.Proofs.YtphnjfbaioblbaaDoor
open Go.RowKit V
/-- x[:m:m] -/
theorem cut_to3 {P : Program} (t e : TypeId) (ht : P.underlying t = some (.slice e)) (hsz : (P.info? e).map (·.size) = some 1) (A : Option Addr) (n c m : Nat) (k1 k2 : IntKind) (hm : m ≤ c) (W : World) :
    (Instr.slice t (.slice A n c) none (some (.int k1 m)) (some (.int k2 m))).run P W = .ok (.slice A m m) W := by
  cases hq : P.info? e with
  | none => simp [hq] at hsz
  | some q =>
    have hs1 : q.size = 1 := by simpa [hq] using hsz
    simp [Instr.slice, run_underlying ht, Instr.sliceBounds, Instr.sliceBound, asIntOf, hm, sizeOf, typeInfo, hq, hs1, go_sem, V.map_add_zero]
theorem blank_any (c : Int) (w : World) : Calls Tryd.prog 17 #[.int .u8 c] w fun e w' => e = .returned (.bool (blankB c)) ∧ w' = w := by
  unfold blankB
  obtain ⟨q1, h1⟩ : ∃ q, q = (c == 32) := ⟨_, rfl⟩
  obtain ⟨q2, h2⟩ : ∃ q, q = (c == 9) := ⟨_, rfl⟩
  obtain ⟨q3, h3⟩ : ∃ q, q = (c == 13) := ⟨_, rfl⟩
  rw [← h1, ← h2, ← h3]
  have g1 := h1.symm
  have g2 := h2.symm
  have g3 := h3.symm
  clear h1 h2 h3
  cases q1 <;> cases q2 <;> cases q3 <;>
  · go_enter Tryd.func17, Tryd.ntmps17
    go_wp2_with fail
    go_ret
    exact ⟨rfl, rfl⟩
theorem trim_take (xs : List Int) (m : Nat) (hm : m < xs.length) : trimL (xs.take (m + 1)) = if blankB (rd xs m) then trimL (xs.take m) else xs.take (m + 1) := by
  have he : xs.take (m + 1) = xs.take m ++ [rd xs m] := by
    rw [List.take_add_one, List.getElem?_eq_getElem hm]
    simp [rd, hm]
  rw [he]
  by_cases h : blankB (rd xs m) = true
  · rw [if_pos h, trimL_blank _ _ h]
  · rw [if_neg h, trimL_other _ _ (by simpa using h)]
set_option maxHeartbeats 1000000 in
theorem trimmedLine_any (A : Option Addr) (n c : Nat) (xs : List Int) (w : World) (hn : n = xs.length) (hc : n ≤ c) (hm : n ≤ 140737488355328) (hr : Rb w A xs) :
    Calls Tryd.prog 14 #[.slice A n c] w fun e w' => ∃ m : Nat, e = .returned (.slice A m m) ∧ w' = w ∧ m ≤ n ∧ trimL xs = xs.take m := by
  have HR := As.mk hr
  have HN := As.mk hn
  have hcut := fun (m : Nat) (h : m ≤ c) => cut_to3 (P := Tryd.prog) 25 5 Tryd.underlying25 size8 A n c m .i64 .i64 h
  have HCUT := As.mk hcut
  clear hr hn hcut
  go_enter Tryd.func14, Tryd.ntmps14
  go_wp2_with fail
  go_loop [3] (fun v => ∃ m : Nat, m ≤ n ∧ v = .int .i64 m ∧ As (trimL xs = trimL (xs.take m))) (fun v => (intOf v).toNat)
  case atStart => exact ⟨n, Nat.le_refl _, rfl, ⟨by rw [HN.out, List.take_length]⟩⟩
  case round =>
    obtain ⟨m, hmn, rfl, HT⟩ := hrel
    have hcm := HCUT.out m (by omega)
    by_cases h0 : m = 0
    · subst h0
      go_wp2_with fail
      go_ret
      exact ⟨0, rfl, rfl, Nat.zero_le _, by rw [HT.out]; rfl⟩
    · obtain ⟨p, rfl⟩ : ∃ p, m = p + 1 := ⟨m - 1, by omega⟩
      have hp : p < xs.length := by have := HN.out; omega
      obtain ⟨ad, rfl, hcell⟩ := HR.out.at_ p (by omega) (by omega)
      simp only [Int.toNat_natCast] at hcell
      have hpos : (0 : Int) < ((p + 1 : Nat) : Int) := by omega
      have e1 : IntKind.i64.wrap (((p + 1 : Nat) : Int) - 1) = (p : Int) := by rw [IntKind.wrap_i64]; omega
      have hpn : (p : Int) < (n : Int) := by omega
      have ht := trim_take xs p hp
      obtain ⟨q, hq⟩ : ∃ q, q = blankB (rd xs p) := ⟨_, rfl⟩
      rw [← hq] at ht
      have HB := As.mk (blank_any (rd xs p) w)
      rw [← hq] at HB
      have HTT := As.mk ht
      clear ht hq hp
      go_wp2_with fail
      refine HB.out.mono ?_
      rintro e w1 ⟨rfl, rfl⟩
      cases q with
      | false =>
        go_wp2_with fail
        go_ret
        exact ⟨p + 1, rfl, rfl, hmn, by rw [HT.out, HTT.out]; rfl⟩
      | true =>
        go_wp2_with fail
        go_round
        case rel => exact ⟨p, by omega, rfl, ⟨by rw [HT.out, HTT.out]; rfl⟩⟩
        case measure => simp [intOf]
set_option maxHeartbeats 1000000 in
theorem unended_any (A : Option Addr) (n c : Nat) (xs : List Int) (w : World) (hn : n = xs.length) (hc : n ≤ c) (hm : n ≤ 140737488355328) (hr : Rb w A xs) :
    Calls Tryd.prog 9 #[.slice A n c] w fun e w' => ∃ m : Nat, e = .returned (.slice A m c) ∧ w' = w ∧ m ≤ n ∧ unendedL xs = xs.take m ∧ m = (unendedL xs).length := by
  have HR := As.mk hr
  have HN := As.mk hn
  clear hr hn
  go_enter Tryd.func9, Tryd.ntmps9
  by_cases h0 : n = 0
  · subst h0
    have HX : As (xs = []) := ⟨List.eq_nil_of_length_eq_zero HN.out.symm⟩
    go_wp2_with fail
    go_ret
    exact ⟨0, rfl, rfl, Nat.zero_le _, by rw [HX.out]; rfl, by rw [HX.out]; rfl⟩
  · obtain ⟨p, rfl⟩ : ∃ p, n = p + 1 := ⟨n - 1, by omega⟩
    have hp : p < xs.length := by have := HN.out; omega
    obtain ⟨ad, rfl, hcell⟩ := HR.out.at_ p (by omega) (by omega)
    simp only [Int.toNat_natCast] at hcell
    have hpos : (0 : Int) < ((p + 1 : Nat) : Int) := by omega
    have e1 : IntKind.i64.wrap (((p + 1 : Nat) : Int) - 1) = (p : Int) := by rw [IntKind.wrap_i64]; omega
    have hpn : (p : Int) < ((p + 1 : Nat) : Int) := by omega
    have hl : xs.getLast? = some (rd xs p) := by
      rw [List.getLast?_eq_getElem?, show xs.length - 1 = p from by have := HN.out; omega, List.getElem?_eq_getElem hp]
      simp [rd, hp]
    have hcut := cut_to (P := Tryd.prog) 25 5 Tryd.underlying25 size8 (some ad) (p + 1) c p .i64 p rfl (by omega)
    obtain ⟨y, hy⟩ : ∃ y, y = rd xs p := ⟨_, rfl⟩
    rw [← hy] at hcell hl
    clear hp hy
    by_cases h10 : y = 10
    · subst h10
      have HU : As (unendedL xs = xs.take p ∧ p = (unendedL xs).length) := ⟨by
        unfold unendedL
        rw [if_pos hl, List.dropLast_eq_take, show xs.length - 1 = p from by have := HN.out; omega]
        exact ⟨rfl, by rw [List.length_take]; have := HN.out; omega⟩⟩
      clear hl
      go_wp2_with fail
      go_ret
      exact ⟨p, rfl, rfl, by omega, HU.out.1, HU.out.2⟩
    · have HU : As (unendedL xs = xs.take (p + 1) ∧ p + 1 = (unendedL xs).length) := ⟨by
        unfold unendedL
        rw [if_neg (by rw [hl]; simpa using h10), HN.out, List.take_length]
        exact ⟨rfl, rfl⟩⟩
      have g1 : (y == 10) = false := by simpa using h10
      clear hl
      go_wp2_with fail
      go_ret
      exact ⟨p + 1, rfl, rfl, Nat.le_refl _, HU.out.1, HU.out.2⟩
end Go.Proofs.YtphnjfbaioblbaaDoor
