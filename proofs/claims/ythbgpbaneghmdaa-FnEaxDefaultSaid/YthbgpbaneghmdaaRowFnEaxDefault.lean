/- The row of FnEaxDefault: from the given statement to the walk's theorem. -/
import Derived.Test.YthbgpbaneghmdaaRows
import Derived.Test.YthbgpbaneghmdaaEaxAll
import Derived.WalkKit
import Derived.ProofKit
import Derived.OpenShut
import Derived.ShutString
import Derived.ChangeOld
import Derived.Below
import Derived.SizedLaws
import Derived.Test.YthbgpbaneghmdaaSized
import Derived.Test.YthbgpbaneghmdaaBlockArg2
import Derived.Test.YthbgpbaneghmdaaCallArg
namespace Go.Proofs.Ythbgpbaneghmdaa.fnEaxDefault
open Go.ChangeShapes Go.WideShapes Go.ChangeAt Go.RowKit V
open Go.ChangeMaps (open_string shut_string)
set_option linter.unusedVariables false
theorem own : ownKnob Try.prog.godebug = none := by kernel_rfl
theorem laidOut : laidOutB Try.prog = true := by kernel_rfl
set_option maxRecDepth 100000 in
theorem lifted (os : Os) (started : os.Started) (H : Type) (enc : TypeId × Value → H) :
    ReturnsInHanded {} Try.checked os 4 .any (Rows.fnEaxDefaultSpec.pre6 enc Try.prog Try.f4 Rows.fnEaxDefaultRow.domain false) (Rows.fnEaxDefaultSpec.post enc Try.prog Try.f4 false true false false) := by
  refine returnsInHanded_of_change_sized (C := Try.checked) own started (by kernel_rfl) Try.func4
    (ChangeSpec.witness6 (enc := enc) (C := Try.checked) false ⟨#[], #[.agg #[.slice none 0 0, .slice none 0 0, .slice none 0 0], .slice none 0 0], []⟩ 8 (by kernel_rfl) (by kernel_rfl) (by kernel_rfl) (by kernel_rfl)) ?_
  intro W base args ds gs before hval0 hW hcnd hsz0 _
  have hsz : (DataW.weightsEach Try.prog (Try.f4.params.toList ++ Rows.fnEaxDefaultSpec.plain.varTypes Try.prog) (ds ++ gs)).all (· ≤ reachBytes) = true := hsz0
  have hval : ∀ (j : Nat) t v, Try.f4.params[j]? = some t → args[j]? = some v → Value.okWide Try.prog W .any base t v := hval0
  have hW' := hW
  obtain ⟨p, q, hA0, hV, rfl, hfz, hnd⟩ := hW
  have hA : DataW.TrodAll enc Try.prog W 0 (fun _ => true) true Try.f4.params.toList args.toList ds p := hA0
  rw [Try.params4] at hA hval hsz
  obtain ⟨v0, vs0, d0, ds0, p0, q0, hargs, rfl, rfl, h0, r0⟩ := trodAll_cons hA
  obtain ⟨v1, vs1, d1, ds1, p1, q1, rfl, rfl, rfl, h1, r1⟩ := trodAll_cons r0
  obtain ⟨rfl, rfl, rfl⟩ := trodAll_nil r1
  obtain rfl : args = #[v0, v1] := by cases args; simp_all
  obtain ⟨rfl, rfl⟩ := trodVars_none hV
  have k0 := h0
  have lt0 : ∀ x ∈ p0, x.block < W.heap.size := by obtain ⟨m, hm⟩ := k0; exact DataW.trod_lt m _ _ _ hm
  obtain ⟨A0, cap0, xs0, B0, dap0, zs0, C0, eap0, us0, rfl, hx0, hb0, hz0, hd0, hu0, he0⟩ := open_block Try.underlying24 (by kernel_rfl) (by kernel_rfl) rfl rfl rfl Try.underlying22 Try.underlying5 (by kernel_rfl) (hval 0 24 v0 rfl rfl) h0
  obtain ⟨A1, len1, cap1, rfl⟩ := okWide_slice Try.underlying35 (hval 1 35 v1 rfl rfl)
  have k1 := h1
  have lt1 : ∀ x ∈ p1, x.block < W.heap.size := by obtain ⟨m, hm⟩ := k1; exact DataW.trod_lt m _ _ _ hm
  have y1 : len1 ≤ 9223372036854775806 := len_calls hsz (j := 1) (t := 35) rfl rfl Try.underlying35 (by kernel_rfl) h1
  obtain ⟨cs1, hl1, hr1⟩ := open_calls Try.underlying35 (by kernel_rfl) Try.underlying63 (by kernel_rfl) Try.underlying4 Try.underlying22 Try.underlying22 Try.underlying22 Try.underlying5 (by kernel_rfl) h1 y1
  clear hA0 hval0 hsz0 hsz
  refine (fnEaxDefault_walk A0 cap0 xs0 B0 dap0 zs0 C0 eap0 us0 A1 len1 cap1 cs1 W hx0 hb0 hz0 hd0 hu0 he0 hl1 hr1).mono fun e W' ⟨he, bel⟩ => ?_
  subst he
  exact ⟨_, rfl, _, _, _, [], _, [], hW', trodAll_mk1 (shut_bool Try.underlying4 _), (trodAll_cons_mk (Below.trod laidOut (by kernel_rfl) (of_decide_eq_true (by kernel_rfl)) k0 bel lt0) (trodAll_cons_mk (Below.trod laidOut (by kernel_rfl) (of_decide_eq_true (by kernel_rfl)) k1 bel lt1) trodAll_mk0)), rfl, bel.frame _, fun h => by cases h⟩
theorem over : Rows.fnEaxDefaultRow.holds Try.pinned (OpenSpec.ofChange Rows.fnEaxDefaultSpec) :=
  OpenClaim.holds_of_wide 4 Try.f4 rfl rfl rfl rfl rfl rfl rfl ⟨rfl, rfl, rfl, rfl, rfl⟩ rfl rfl rfl rfl rfl (by kernel_rfl) Try.func4 (by kernel_rfl)
    (of_decide_eq_true (by kernel_rfl)) (by unfold Func.isWrapper; first | (rw [if_pos (by decide +kernel)]; kernel_rfl) | (rw [if_neg (by decide +kernel)]; exact ⟨rfl, rfl⟩))
    (fun os started H enc _ => lifted os started H enc)
theorem proved : Rows.FnEaxDefaultSaid := over
end Go.Proofs.Ythbgpbaneghmdaa.fnEaxDefault
namespace Go.Proofs.Ythbgpbaneghmdaa
theorem fnEaxDefault_row : Rows.FnEaxDefaultSaid := fnEaxDefault.proved
#print axioms fnEaxDefault_row
end Go.Proofs.Ythbgpbaneghmdaa
