/- The row of FnBitOn: from the given statement to the walk's theorem. -/
import Derived.Test.YthnebljgnmggaaaDoorRows
import Derived.Test.YthnebljgnmggaaaDoorFBit
import Derived.WalkKit
import Derived.ProofKit
import Derived.OpenShut
import Derived.ShutString
import Derived.ChangeOld
import Derived.Below
import Derived.SizedLaws
import Derived.Test.YthnebljgnmggaaaDoorCards
import Derived.Test.YthnebljgnmggaaaDoorTie
import Derived.Test.YthnebljgnmggaaaDoorBitD
import Derived.SevenTiedAt
import Derived.JoinedOf
import Derived.LaidLaws
import Derived.RowKitTokens
import Derived.Test.YthnebljgnmggaaaDoorSized
namespace Go.Proofs.YthnebljgnmggaaaDoor.fnBitOn
open Go.ChangeShapes Go.WideShapes Go.ChangeAt Go.RowKit V
open Go.ChangeMaps (open_string shut_string)
set_option linter.unusedVariables false
set_option maxRecDepth 100000 in
theorem lifted (os : Os) (started : os.Started) (H : Type) (enc : TypeId × Value → H) :
    ReturnsInHanded {} Tryd.checked os 3 .any (fun w args => (Rows.fnBitOnSpec.pre enc Tryd.prog Tryd.f3 [] false w args ∧ laidMet Tryd.prog [("pub-counterseal/pub/bigall.divRecursiveThreshold", Rows.laid_pub_counterseal_pub_bigall_divRecursiveThreshold), ("pub-counterseal/pub/bigall.karatsubaThreshold", Rows.laid_pub_counterseal_pub_bigall_karatsubaThreshold), ("pub-counterseal/pub/bigall.basicSqrThreshold", Rows.laid_pub_counterseal_pub_bigall_basicSqrThreshold), ("pub-counterseal/pub/bigall.karatsubaSqrThreshold", Rows.laid_pub_counterseal_pub_bigall_karatsubaSqrThreshold)] w) ∧ sizedMet enc Tryd.prog Tryd.f3 (OpenSpec.ofChange Rows.fnBitOnSpec) false w args)
      (Rows.fnBitOnSpec.post enc Tryd.prog Tryd.f3 false true false false) := by
  refine returnsInHanded_of_change_and (C := Tryd.checked) (X := fun w _ => laidMet Tryd.prog [("pub-counterseal/pub/bigall.divRecursiveThreshold", Rows.laid_pub_counterseal_pub_bigall_divRecursiveThreshold), ("pub-counterseal/pub/bigall.karatsubaThreshold", Rows.laid_pub_counterseal_pub_bigall_karatsubaThreshold), ("pub-counterseal/pub/bigall.basicSqrThreshold", Rows.laid_pub_counterseal_pub_bigall_basicSqrThreshold), ("pub-counterseal/pub/bigall.karatsubaSqrThreshold", Rows.laid_pub_counterseal_pub_bigall_karatsubaSqrThreshold)] w) (fun _ _ _ hh h => h.of_heap hh) own started (by kernel_rfl) Tryd.func3
    (ChangeSpec.witness_at (enc := enc) (C := Tryd.checked) (os := os) (X := fun w _ => laidMet Tryd.prog [("pub-counterseal/pub/bigall.divRecursiveThreshold", Rows.laid_pub_counterseal_pub_bigall_divRecursiveThreshold), ("pub-counterseal/pub/bigall.karatsubaThreshold", Rows.laid_pub_counterseal_pub_bigall_karatsubaThreshold), ("pub-counterseal/pub/bigall.basicSqrThreshold", Rows.laid_pub_counterseal_pub_bigall_basicSqrThreshold), ("pub-counterseal/pub/bigall.karatsubaSqrThreshold", Rows.laid_pub_counterseal_pub_bigall_karatsubaSqrThreshold)] w) false (laidWorld4 os) #[.int .i64 0, .int .i64 0, .int .i64 0, .int .i64 0] 8 rfl (by kernel_rfl) (by kernel_rfl) (by kernel_rfl) (by kernel_rfl) (by kernel_rfl) (laidWorld4_met os _)) ?_
  intro W base args ds gs before hval0 hW _ hsz0 hL _
  have hsz : (DataW.weightsEach Tryd.prog (Tryd.f3.params.toList ++ Rows.fnBitOnSpec.plain.varTypes Tryd.prog) (ds ++ gs)).all (· ≤ reachBytes) = true := hsz0
  have hval : ∀ (j : Nat) t v, Tryd.f3.params[j]? = some t → args[j]? = some v → Value.okWide Tryd.prog W .any base t v := hval0
  have hW' := hW
  obtain ⟨p, q, hA0, hV, rfl, hfz, hnd⟩ := hW
  have hA : DataW.TrodAll enc Tryd.prog W 0 (fun _ => true) true Tryd.f3.params.toList args.toList ds p := hA0
  rw [Tryd.params3] at hA hval hsz
  obtain ⟨v0, vs0, d0, ds0, p0, q0, hargs, rfl, rfl, h0, r0⟩ := trodAll_cons hA
  obtain ⟨v1, vs1, d1, ds1, p1, q1, rfl, rfl, rfl, h1, r1⟩ := trodAll_cons r0
  obtain ⟨v2, vs2, d2, ds2, p2, q2, rfl, rfl, rfl, h2, r2⟩ := trodAll_cons r1
  obtain ⟨v3, vs3, d3, ds3, p3, q3, rfl, rfl, rfl, h3, r3⟩ := trodAll_cons r2
  obtain ⟨rfl, rfl, rfl⟩ := trodAll_nil r3
  obtain rfl : args = #[v0, v1, v2, v3] := by cases args; simp_all
  obtain ⟨rfl, rfl⟩ := trodVars_none hV
  obtain ⟨a0, rfl, rfl, rfl, w0⟩ := open_int Tryd.underlying3 (hval 0 3 v0 rfl rfl) h0
  obtain ⟨a1, rfl, rfl, rfl, w1⟩ := open_int Tryd.underlying3 (hval 1 3 v1 rfl rfl) h1
  obtain ⟨a2, rfl, rfl, rfl, w2⟩ := open_int Tryd.underlying3 (hval 2 3 v2 rfl rfl) h2
  obtain ⟨a3, rfl, rfl, rfl, w3⟩ := open_int Tryd.underlying3 (hval 3 3 v3 rfl rfl) h3
  clear hA0 hval0 hsz0 hsz
  obtain ⟨a0_, a1_, hS⟩ := sent_of_laid4 hL
  refine (bitOn_walk a0 a1 a2 a3 W  w0 w1 w2 w3).mono fun e W' ⟨he, bel⟩ => ?_
  subst he
  exact ⟨_, rfl, _, _, _, [], _, [], hW', trodAll_mk1 (shut_bool Tryd.underlying4 _), (trodAll_cons_mk (shut_int Tryd.underlying3 w0) (trodAll_cons_mk (shut_int Tryd.underlying3 w1) (trodAll_cons_mk (shut_int Tryd.underlying3 w2) (trodAll_cons_mk (shut_int Tryd.underlying3 w3) trodAll_mk0)))), rfl, bel.frame _, fun h => by cases h⟩
theorem over : Rows.fnBitOnRow.holds Tryd.pinned (OpenSpec.ofChange Rows.fnBitOnSpec) :=
  OpenClaim.holds_of_wide 3 Tryd.f3 rfl rfl rfl rfl rfl rfl rfl ⟨rfl, rfl, rfl, rfl, rfl⟩ rfl rfl rfl rfl rfl (by kernel_rfl) Tryd.func3 (by kernel_rfl)
    (of_decide_eq_true (by kernel_rfl)) (by unfold Func.isWrapper; first | (rw [if_pos (by decide +kernel)]; kernel_rfl) | (rw [if_neg (by decide +kernel)]; exact ⟨rfl, rfl⟩))
    (fun os started H enc _ => lifted os started H enc)
theorem proved : Rows.FnBitOnCardSaid :=
  Claim7.holds_tied_plain_at .later [] [.data, .data, .data, .data] true (true, "adb7851e680d7b6b59af78af3571839bc7973d1620388e27238b08a8bff00d54") false
    over (fun _ h => by cases h) (by kernel_rfl) (fun _ h => by cases h) fnBitOn_row_tie rfl ⟨rfl, rfl⟩ (by kernel_rfl) rfl
    (fun f fn hf hfn => by
      obtain rfl : f = 3 := Option.some.inj ((show Tryd.prog.funcNamed "pub-counterseal/laws.FnBitOn" = some 3 by kernel_rfl).symm.trans hf) |>.symm
      obtain rfl : fn = Tryd.f3 := (Option.some.inj (Tryd.func3.symm.trans hfn)).symm
      exact ⟨by kernel_rfl, fun j t ht => by
        rw [Tryd.params3] at ht
        have h3 : t = 3 := by
          rcases j with _ | _ | _ | _ | j
          · simp at ht; exact ht.symm
          · simp at ht; exact ht.symm
          · simp at ht; exact ht.symm
          · simp at ht; exact ht.symm
          · simp at ht
        rcases h3 with rfl
        exact (show Tryd.prog.wantsStandIn 3 = false by kernel_rfl)
        ⟩)
    (by kernel_rfl)
end Go.Proofs.YthnebljgnmggaaaDoor.fnBitOn
namespace Go.Proofs.YthnebljgnmggaaaDoor
theorem fnBitOn_row : Rows.FnBitOnCardSaid := fnBitOn.proved
#print axioms fnBitOn_row
end Go.Proofs.YthnebljgnmggaaaDoor
