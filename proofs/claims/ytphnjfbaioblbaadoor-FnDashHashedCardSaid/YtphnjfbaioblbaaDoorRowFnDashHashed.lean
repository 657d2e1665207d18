/- The row of FnDashHashed: from the given statement to the walk's theorem. -/
import Derived.Test.YtphnjfbaioblbaaDoorRows
import Derived.Test.YtphnjfbaioblbaaDoorFDash
import Derived.WalkKit
import Derived.ProofKit
import Derived.OpenShut
import Derived.ShutString
import Derived.ChangeOld
import Derived.Below
import Derived.SizedLaws
import Derived.Test.YtphnjfbaioblbaaDoorCards
import Derived.Test.YtphnjfbaioblbaaDoorTie
import Derived.Test.YtphnjfbaioblbaaDoorDoorK1
import Derived.SevenTiedAt
import Derived.JoinedOf
import Derived.LaidLaws
import Derived.RowKitTokens
import Derived.Test.YtphnjfbaioblbaaDoorSized
import Derived.Test.YtphnjfbaioblbaaDoorRowsArg2B
namespace Go.Proofs.YtphnjfbaioblbaaDoor.fnDashHashed
open Go.ChangeShapes Go.WideShapes Go.ChangeAt Go.RowKit V
open Go.ChangeMaps (open_string shut_string)
set_option linter.unusedVariables false
set_option maxRecDepth 100000 in
theorem lifted (os : Os) (started : os.Started) (H : Type) (enc : TypeId × Value → H) :
    ReturnsInHanded {} Tryd.checked os 3 .any (fun w args => (Rows.fnDashHashedSpec.pre enc Tryd.prog Tryd.f3 [] false w args ∧ laidMet Tryd.prog [("io.ErrShortWrite", Rows.laid_io_ErrShortWrite)] w) ∧ sizedMet enc Tryd.prog Tryd.f3 (OpenSpec.ofChange Rows.fnDashHashedSpec) false w args)
      (Rows.fnDashHashedSpec.post enc Tryd.prog Tryd.f3 false true false false) := by
  refine returnsInHanded_of_change_and (C := Tryd.checked) (X := fun w _ => laidMet Tryd.prog [("io.ErrShortWrite", Rows.laid_io_ErrShortWrite)] w) (fun _ _ _ hh h => h.of_heap hh) own started (by kernel_rfl) Tryd.func3
    (ChangeSpec.witness_at (enc := enc) (C := Tryd.checked) (os := os) (X := fun w _ => laidMet Tryd.prog [("io.ErrShortWrite", Rows.laid_io_ErrShortWrite)] w) false (laidWorld1 os) #[.slice none 0 0] 8 rfl (by kernel_rfl) (by kernel_rfl) (by kernel_rfl) (by kernel_rfl) (by kernel_rfl) (laidWorld1_met os _)) ?_
  intro W base args ds gs before hval0 hW _ hsz0 hL _
  have hsz : (DataW.weightsEach Tryd.prog (Tryd.f3.params.toList ++ Rows.fnDashHashedSpec.plain.varTypes Tryd.prog) (ds ++ gs)).all (· ≤ reachBytes) = true := hsz0
  have hval : ∀ (j : Nat) t v, Tryd.f3.params[j]? = some t → args[j]? = some v → Value.okWide Tryd.prog W .any base t v := hval0
  have hW' := hW
  obtain ⟨p, q, hA0, hV, rfl, hfz, hnd⟩ := hW
  have hA : DataW.TrodAll enc Tryd.prog W 0 (fun _ => true) true Tryd.f3.params.toList args.toList ds p := hA0
  rw [Tryd.params3] at hA hval hsz
  obtain ⟨v0, vs0, d0, ds0, p0, q0, hargs, rfl, rfl, h0, r0⟩ := trodAll_cons hA
  obtain ⟨rfl, rfl, rfl⟩ := trodAll_nil r0
  obtain rfl : args = #[v0] := by cases args; simp_all
  obtain ⟨rfl, rfl⟩ := trodVars_none hV
  obtain ⟨A0, len0, cap0, rfl⟩ := okWide_slice Tryd.underlying22 (hval 0 22 v0 rfl rfl)
  have k0 := h0
  have lt0 : ∀ x ∈ p0, x.block < W.heap.size := by obtain ⟨m, hm⟩ := k0; exact DataW.trod_lt m _ _ _ hm
  have y0 : len0 ≤ 9223372036854775806 := len_rows hsz (j := 0) (t := 22) rfl rfl Tryd.underlying22 Tryd.underlying25 (by kernel_rfl) (by kernel_rfl) h0
  obtain ⟨vs0_, xss0, hl0, hr0, hb0⟩ := open_rows3 Tryd.underlying22 (by kernel_rfl) Tryd.underlying25 Tryd.underlying5 (by kernel_rfl) h0 y0
  clear hA0 hval0 hsz0 hsz
  obtain ⟨a0_, hS⟩ := sent_of_laid1 hL
  refine (fnDash_walk A0 len0 cap0 vs0_ xss0 W  hl0 hr0 hb0).mono fun e W' ⟨he, bel⟩ => ?_
  subst he
  exact ⟨_, rfl, _, _, _, [], _, [], hW', trodAll_mk1 (shut_bool Tryd.underlying4 _), (trodAll_cons_mk (Below.trod laidOut (by kernel_rfl) (of_decide_eq_true (by kernel_rfl)) k0 bel lt0) trodAll_mk0), rfl, bel.frame _, fun h => by cases h⟩
theorem over : Rows.fnDashHashedRow.holds Tryd.pinned (OpenSpec.ofChange Rows.fnDashHashedSpec) :=
  OpenClaim.holds_of_wide 3 Tryd.f3 rfl rfl rfl rfl rfl rfl rfl ⟨rfl, rfl, rfl, rfl, rfl⟩ rfl rfl rfl rfl rfl (by kernel_rfl) Tryd.func3 (by kernel_rfl)
    (of_decide_eq_true (by kernel_rfl)) (by unfold Func.isWrapper; first | (rw [if_pos (by decide +kernel)]; kernel_rfl) | (rw [if_neg (by decide +kernel)]; exact ⟨rfl, rfl⟩))
    (fun os started H enc _ => lifted os started H enc)
theorem proved : Rows.FnDashHashedCardSaid :=
  Claim7.holds_tied_plain_at .later [] [.sentinel] true (true, "07f1713490af00b9edd8fc0734c3160f5dee6b23669cf347e06dce7057d5b783") true
    over (fun _ h => by cases h) (by kernel_rfl) (fun _ h => by cases h) fnDashHashed_row_tie rfl ⟨rfl, rfl⟩ (by kernel_rfl) rfl
    (fun f fn hf hfn => by
      obtain rfl : f = 3 := Option.some.inj ((show Tryd.prog.funcNamed "pub-counterseal/laws.FnDashHashed" = some 3 by kernel_rfl).symm.trans hf) |>.symm
      obtain rfl : fn = Tryd.f3 := (Option.some.inj (Tryd.func3.symm.trans hfn)).symm
      exact ⟨by kernel_rfl, fun j t ht => by
        rw [Tryd.params3] at ht
        have h3 : t = 22 := by
          rcases j with _ | j
          · simp at ht; exact ht.symm
          · simp at ht
        rcases h3 with rfl
        exact (show Tryd.prog.wantsStandIn 22 = false by kernel_rfl)
        ⟩)
    (by kernel_rfl)
end Go.Proofs.YtphnjfbaioblbaaDoor.fnDashHashed
namespace Go.Proofs.YtphnjfbaioblbaaDoor
theorem fnDashHashed_row : Rows.FnDashHashedCardSaid := fnDashHashed.proved
#print axioms fnDashHashed_row
end Go.Proofs.YtphnjfbaioblbaaDoor
