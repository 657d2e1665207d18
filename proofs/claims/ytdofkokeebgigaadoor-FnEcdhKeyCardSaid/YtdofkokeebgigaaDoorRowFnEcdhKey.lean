/- The row of FnEcdhKey: from the given statement to the walk's theorem. -/
import Derived.Test.YtdofkokeebgigaaDoorRows
import Derived.Test.YtdofkokeebgigaaDoorEcdh4
import Derived.WalkKit
import Derived.ProofKit
import Derived.OpenShut
import Derived.ShutString
import Derived.ChangeOld
import Derived.Below
import Derived.SizedLaws
import Derived.Test.YtdofkokeebgigaaDoorCards
import Derived.Test.YtdofkokeebgigaaDoorTie
import Derived.Test.YtdofkokeebgigaaDoorDoorK1
import Derived.SevenTiedAt
import Derived.JoinedOf
import Derived.LaidLaws
import Derived.RowKitTokens
import Derived.Test.YtdofkokeebgigaaDoorSized
import Derived.Test.YtdofkokeebgigaaDoorHashArg
import Derived.Test.YtdofkokeebgigaaDoorArrArg
namespace Go.Proofs.YtdofkokeebgigaaDoor.fnEcdhKey
open Go.ChangeShapes Go.WideShapes Go.ChangeAt Go.RowKit V
open Go.ChangeMaps (open_string shut_string)
set_option linter.unusedVariables false
set_option maxRecDepth 100000 in
theorem lifted (os : Os) (started : os.Started) (H : Type) (enc : TypeId × Value → H) :
    ReturnsInHanded {} Tryd.checked os 3 .any (fun w args => (Rows.fnEcdhKeySpec.pre enc Tryd.prog Tryd.f3 [] false w args ∧ laidMet Tryd.prog [("bytes.ErrTooLarge", Rows.laid_bytes_ErrTooLarge)] w) ∧ sizedMet enc Tryd.prog Tryd.f3 (OpenSpec.ofChange Rows.fnEcdhKeySpec) false w args)
      (Rows.fnEcdhKeySpec.post enc Tryd.prog Tryd.f3 false true false false) := by
  refine returnsInHanded_of_change_and (C := Tryd.checked) (X := fun w _ => laidMet Tryd.prog [("bytes.ErrTooLarge", Rows.laid_bytes_ErrTooLarge)] w) (fun _ _ _ hh h => h.of_heap hh) own started (by kernel_rfl) Tryd.func3
    (ChangeSpec.witness_at (enc := enc) (C := Tryd.checked) (os := os) (X := fun w _ => laidMet Tryd.prog [("bytes.ErrTooLarge", Rows.laid_bytes_ErrTooLarge)] w) false (laidWorld1 os) #[.agg #[.slice none 0 0, .slice none 0 0], .agg #[.int .u8 0, .int .u8 0], .int .i64 0, .slice none 0 0, .slice none 0 0, .slice none 0 0] 8 rfl (by kernel_rfl) (by kernel_rfl) (by kernel_rfl) (by kernel_rfl) (by kernel_rfl) (laidWorld1_met os _)) ?_
  intro W base args ds gs before hval0 hW _ hsz0 hL _
  have hsz : (DataW.weightsEach Tryd.prog (Tryd.f3.params.toList ++ Rows.fnEcdhKeySpec.plain.varTypes Tryd.prog) (ds ++ gs)).all (· ≤ reachBytes) = true := hsz0
  have hval : ∀ (j : Nat) t v, Tryd.f3.params[j]? = some t → args[j]? = some v → Value.okWide Tryd.prog W .any base t v := hval0
  have hW' := hW
  obtain ⟨p, q, hA0, hV, rfl, hfz, hnd⟩ := hW
  have hA : DataW.TrodAll enc Tryd.prog W 0 (fun _ => true) true Tryd.f3.params.toList args.toList ds p := hA0
  rw [Tryd.params3] at hA hval hsz
  obtain ⟨v0, vs0, d0, ds0, p0, q0, hargs, rfl, rfl, h0, r0⟩ := trodAll_cons hA
  obtain ⟨v1, vs1, d1, ds1, p1, q1, rfl, rfl, rfl, h1, r1⟩ := trodAll_cons r0
  obtain ⟨v2, vs2, d2, ds2, p2, q2, rfl, rfl, rfl, h2, r2⟩ := trodAll_cons r1
  obtain ⟨v3, vs3, d3, ds3, p3, q3, rfl, rfl, rfl, h3, r3⟩ := trodAll_cons r2
  obtain ⟨v4, vs4, d4, ds4, p4, q4, rfl, rfl, rfl, h4, r4⟩ := trodAll_cons r3
  obtain ⟨v5, vs5, d5, ds5, p5, q5, rfl, rfl, rfl, h5, r5⟩ := trodAll_cons r4
  obtain ⟨rfl, rfl, rfl⟩ := trodAll_nil r5
  obtain rfl : args = #[v0, v1, v2, v3, v4, v5] := by cases args; simp_all
  obtain ⟨rfl, rfl⟩ := trodVars_none hV
  have k0 := h0
  have lt0 : ∀ x ∈ p0, x.block < W.heap.size := by obtain ⟨m, hm⟩ := k0; exact DataW.trod_lt m _ _ _ hm
  obtain ⟨A0, cap0, xs0, B0, dap0, zs0, rfl, hx0, hb0, hz0, hd0⟩ := open_hash Tryd.underlying24 (by kernel_rfl) (by kernel_rfl) rfl rfl Tryd.underlying22 Tryd.underlying5 (by kernel_rfl) (hval 0 24 v0 rfl rfl) h0
  have k1 := h1
  have lt1 : ∀ x ∈ p1, x.block < W.heap.size := by obtain ⟨m, hm⟩ := k1; exact DataW.trod_lt m _ _ _ hm
  obtain ⟨i1, j1, rfl, hi1, hj1⟩ := open_two Tryd.underlying25 (by kernel_rfl) (by kernel_rfl) Tryd.underlying5 (hval 1 25 v1 rfl rfl)
  obtain ⟨a2, rfl, rfl, rfl, w2⟩ := open_int Tryd.underlying3 (hval 2 3 v2 rfl rfl) h2
  obtain ⟨A3, len3, cap3, rfl⟩ := okWide_slice Tryd.underlying22 (hval 3 22 v3 rfl rfl)
  have k3 := h3
  have lt3 : ∀ x ∈ p3, x.block < W.heap.size := by obtain ⟨m, hm⟩ := k3; exact DataW.trod_lt m _ _ _ hm
  have y3 : len3 * 1 ≤ 140737488351232 := sized_ints hsz (j := 3) (t := 22) rfl rfl Tryd.underlying22 Tryd.underlying5 (by kernel_rfl) (by kernel_rfl) h3
  obtain ⟨xs3, rfl, hc3, hx3, hb3⟩ := open_bytes Tryd.underlying22 Tryd.underlying5 (by kernel_rfl) h3
  obtain ⟨A4, len4, cap4, rfl⟩ := okWide_slice Tryd.underlying22 (hval 4 22 v4 rfl rfl)
  have k4 := h4
  have lt4 : ∀ x ∈ p4, x.block < W.heap.size := by obtain ⟨m, hm⟩ := k4; exact DataW.trod_lt m _ _ _ hm
  have y4 : len4 * 1 ≤ 140737488351232 := sized_ints hsz (j := 4) (t := 22) rfl rfl Tryd.underlying22 Tryd.underlying5 (by kernel_rfl) (by kernel_rfl) h4
  obtain ⟨xs4, rfl, hc4, hx4, hb4⟩ := open_bytes Tryd.underlying22 Tryd.underlying5 (by kernel_rfl) h4
  obtain ⟨A5, len5, cap5, rfl⟩ := okWide_slice Tryd.underlying22 (hval 5 22 v5 rfl rfl)
  have k5 := h5
  have lt5 : ∀ x ∈ p5, x.block < W.heap.size := by obtain ⟨m, hm⟩ := k5; exact DataW.trod_lt m _ _ _ hm
  have y5 : len5 * 1 ≤ 140737488351232 := sized_ints hsz (j := 5) (t := 22) rfl rfl Tryd.underlying22 Tryd.underlying5 (by kernel_rfl) (by kernel_rfl) h5
  obtain ⟨xs5, rfl, hc5, hx5, hb5⟩ := open_bytes Tryd.underlying22 Tryd.underlying5 (by kernel_rfl) h5
  clear hA0 hval0 hsz0 hsz
  obtain ⟨a0_, hS⟩ := sent_of_laid1 hL
  refine (fnEcdhKey_walk A0 cap0 xs0 B0 dap0 zs0 i1 j1 a2 A3 cap3 xs3 A4 cap4 xs4 A5 cap5 xs5 W  hx0 hb0 hz0 hd0 hi1 hj1 w2 hx3 hc3 hb3 (by omega) hx4 hc4 hb4 (by omega) hx5 hc5 hb5 (by omega)).mono fun e W' ⟨he, bel⟩ => ?_
  subst he
  exact ⟨_, rfl, _, _, _, [], _, [], hW', trodAll_mk1 (shut_bool Tryd.underlying4 _), (trodAll_cons_mk (Below.trod laidOut (by kernel_rfl) (of_decide_eq_true (by kernel_rfl)) k0 bel lt0) (trodAll_cons_mk (Below.trod laidOut (by kernel_rfl) (of_decide_eq_true (by kernel_rfl)) k1 bel lt1) (trodAll_cons_mk (shut_int Tryd.underlying3 w2) (trodAll_cons_mk (Below.trod laidOut (by kernel_rfl) (of_decide_eq_true (by kernel_rfl)) k3 bel lt3) (trodAll_cons_mk (Below.trod laidOut (by kernel_rfl) (of_decide_eq_true (by kernel_rfl)) k4 bel lt4) (trodAll_cons_mk (Below.trod laidOut (by kernel_rfl) (of_decide_eq_true (by kernel_rfl)) k5 bel lt5) trodAll_mk0)))))), rfl, bel.frame _, fun h => by cases h⟩
theorem over : Rows.fnEcdhKeyRow.holds Tryd.pinned (OpenSpec.ofChange Rows.fnEcdhKeySpec) :=
  OpenClaim.holds_of_wide 3 Tryd.f3 rfl rfl rfl rfl rfl rfl rfl ⟨rfl, rfl, rfl, rfl, rfl⟩ rfl rfl rfl rfl rfl (by kernel_rfl) Tryd.func3 (by kernel_rfl)
    (of_decide_eq_true (by kernel_rfl)) (by unfold Func.isWrapper; first | (rw [if_pos (by decide +kernel)]; kernel_rfl) | (rw [if_neg (by decide +kernel)]; exact ⟨rfl, rfl⟩))
    (fun os started H enc _ => lifted os started H enc)
theorem proved : Rows.FnEcdhKeyCardSaid :=
  Claim7.holds_tied_plain_at .later [] [.sentinel] true (true, "d067db67409076a8d54883ba3f3bda74dc6ec9e745e69b6a6d35046a94229744") false
    over (fun _ h => by cases h) (by kernel_rfl) (fun _ h => by cases h) fnEcdhKey_row_tie rfl ⟨rfl, rfl⟩ (by kernel_rfl) rfl
    (fun f fn hf hfn => by
      obtain rfl : f = 3 := Option.some.inj ((show Tryd.prog.funcNamed "pub-counterseal/laws.FnEcdhKey" = some 3 by kernel_rfl).symm.trans hf) |>.symm
      obtain rfl : fn = Tryd.f3 := (Option.some.inj (Tryd.func3.symm.trans hfn)).symm
      exact ⟨by kernel_rfl, fun j t ht => by
        rw [Tryd.params3] at ht
        have h3 : t = 3 ∨ t = 22 ∨ t = 24 ∨ t = 25 := by
          rcases j with _ | _ | _ | _ | _ | _ | j
          · simp at ht; exact (.inr (.inr (.inl ht.symm)))
          · simp at ht; exact (.inr (.inr (.inr ht.symm)))
          · simp at ht; exact (.inl ht.symm)
          · simp at ht; exact (.inr (.inl ht.symm))
          · simp at ht; exact (.inr (.inl ht.symm))
          · simp at ht; exact (.inr (.inl ht.symm))
          · simp at ht
        rcases h3 with rfl | rfl | rfl | rfl
        · exact (show Tryd.prog.wantsStandIn 3 = false by kernel_rfl)
        · exact (show Tryd.prog.wantsStandIn 22 = false by kernel_rfl)
        · exact (show Tryd.prog.wantsStandIn 24 = false by kernel_rfl)
        · exact (show Tryd.prog.wantsStandIn 25 = false by kernel_rfl)
        ⟩)
    (by kernel_rfl)
end Go.Proofs.YtdofkokeebgigaaDoor.fnEcdhKey
namespace Go.Proofs.YtdofkokeebgigaaDoor
theorem fnEcdhKey_row : Rows.FnEcdhKeyCardSaid := fnEcdhKey.proved
#print axioms fnEcdhKey_row
end Go.Proofs.YtdofkokeebgigaaDoor
