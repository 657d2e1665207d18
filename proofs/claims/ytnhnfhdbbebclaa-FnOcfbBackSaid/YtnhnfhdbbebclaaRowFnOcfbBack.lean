/- The row of FnOcfbBack: from the given statement to the walk's theorem. -/
import Derived.Test.YtnhnfhdbbebclaaRows
import Derived.Test.YtnhnfhdbbebclaaFOcfb
import Derived.WalkKit
import Derived.ProofKit
import Derived.OpenShut
import Derived.ShutString
import Derived.ChangeOld
import Derived.Below
import Derived.SizedLaws
import Derived.Test.YtnhnfhdbbebclaaSized
import Derived.Test.YtnhnfhdbbebclaaBlockArg
import Derived.Test.YtnhnfhdbbebclaaRowsArg2
namespace Go.Proofs.Ytnhnfhdbbebclaa.fnOcfbBack
open Go.ChangeShapes Go.WideShapes Go.ChangeAt Go.RowKit V
open Go.ChangeMaps (open_string shut_string)
set_option linter.unusedVariables false
theorem own : ownKnob Try.prog.godebug = none := by kernel_rfl
theorem laidOut : laidOutB Try.prog = true := by kernel_rfl
set_option maxRecDepth 100000 in
theorem lifted (os : Os) (started : os.Started) (H : Type) (enc : TypeId × Value → H) :
    ReturnsInHanded {} Try.checked os 6 .any (Rows.fnOcfbBackSpec.pre6 enc Try.prog Try.f6 Rows.fnOcfbBackRow.domain false) (Rows.fnOcfbBackSpec.post enc Try.prog Try.f6 false true false false) := by
  refine returnsInHanded_of_change_sized (C := Try.checked) own started (by kernel_rfl) Try.func6
    (ChangeSpec.witness6 (enc := enc) (C := Try.checked) false ⟨#[], #[.agg #[.slice none 0 0, .slice none 0 0, .slice none 0 0], .slice none 0 0, .bool false, .slice none 0 0], []⟩ 8 (by kernel_rfl) (by kernel_rfl) (by kernel_rfl) (by kernel_rfl)) ?_
  intro W base args ds gs before hval0 hW hcnd hsz0 _
  have hsz : (DataW.weightsEach Try.prog (Try.f6.params.toList ++ Rows.fnOcfbBackSpec.plain.varTypes Try.prog) (ds ++ gs)).all (· ≤ reachBytes) = true := hsz0
  have hval : ∀ (j : Nat) t v, Try.f6.params[j]? = some t → args[j]? = some v → Value.okWide Try.prog W .any base t v := hval0
  have hW' := hW
  obtain ⟨p, q, hA0, hV, rfl, hfz, hnd⟩ := hW
  have hA : DataW.TrodAll enc Try.prog W 0 (fun _ => true) true Try.f6.params.toList args.toList ds p := hA0
  rw [Try.params6] at hA hval hsz
  obtain ⟨v0, vs0, d0, ds0, p0, q0, hargs, rfl, rfl, h0, r0⟩ := trodAll_cons hA
  obtain ⟨v1, vs1, d1, ds1, p1, q1, rfl, rfl, rfl, h1, r1⟩ := trodAll_cons r0
  obtain ⟨v2, vs2, d2, ds2, p2, q2, rfl, rfl, rfl, h2, r2⟩ := trodAll_cons r1
  obtain ⟨v3, vs3, d3, ds3, p3, q3, rfl, rfl, rfl, h3, r3⟩ := trodAll_cons r2
  obtain ⟨rfl, rfl, rfl⟩ := trodAll_nil r3
  obtain rfl : args = #[v0, v1, v2, v3] := by cases args; simp_all
  obtain ⟨rfl, rfl⟩ := trodVars_none hV
  have k0 := h0
  have lt0 : ∀ x ∈ p0, x.block < W.heap.size := by obtain ⟨m, hm⟩ := k0; exact DataW.trod_lt m _ _ _ hm
  obtain ⟨A0, cap0, xs0, B0, dap0, zs0, C0, eap0, us0, rfl, hx0, hb0, hz0, hd0, hu0, he0⟩ := open_block Try.underlying24 (by kernel_rfl) (by kernel_rfl) rfl rfl rfl Try.underlying22 Try.underlying5 (by kernel_rfl) (hval 0 24 v0 rfl rfl) h0
  obtain ⟨A1, len1, cap1, rfl⟩ := okWide_slice Try.underlying22 (hval 1 22 v1 rfl rfl)
  have k1 := h1
  have lt1 : ∀ x ∈ p1, x.block < W.heap.size := by obtain ⟨m, hm⟩ := k1; exact DataW.trod_lt m _ _ _ hm
  have y1 : len1 * 1 ≤ 140737488351232 := sized_ints hsz (j := 1) (t := 22) rfl rfl Try.underlying22 Try.underlying5 (by kernel_rfl) (by kernel_rfl) h1
  obtain ⟨xs1, rfl, hc1, hx1, hb1⟩ := open_bytes Try.underlying22 Try.underlying5 (by kernel_rfl) h1
  obtain ⟨a2, rfl, rfl, rfl⟩ := open_bool Try.underlying4 (hval 2 4 v2 rfl rfl) h2
  obtain ⟨A3, len3, cap3, rfl⟩ := okWide_slice Try.underlying43 (hval 3 43 v3 rfl rfl)
  have k3 := h3
  have lt3 : ∀ x ∈ p3, x.block < W.heap.size := by obtain ⟨m, hm⟩ := k3; exact DataW.trod_lt m _ _ _ hm
  have y3 : len3 ≤ 9223372036854775806 := len_rows hsz (j := 3) (t := 43) rfl rfl Try.underlying43 Try.underlying22 (by kernel_rfl) (by kernel_rfl) h3
  obtain ⟨vs3_, xss3, hl3, hr3, hb3⟩ := open_rows3 Try.underlying43 (by kernel_rfl) Try.underlying22 Try.underlying5 (by kernel_rfl) h3 y3
  clear hA0 hval0 hsz0 hsz
  refine (fnOcfbBack_walk A0 cap0 xs0 B0 dap0 zs0 C0 eap0 us0 A1 cap1 xs1 a2 A3 len3 cap3 vs3_ xss3 W hx0 hb0 hz0 hd0 hu0 he0 hx1 hc1 hb1 (by omega) hl3 hr3 hb3).mono fun e W' ⟨he, bel⟩ => ?_
  subst he
  exact ⟨_, rfl, _, _, _, [], _, [], hW', trodAll_mk1 (shut_bool Try.underlying4 _), (trodAll_cons_mk (Below.trod laidOut (by kernel_rfl) (of_decide_eq_true (by kernel_rfl)) k0 bel lt0) (trodAll_cons_mk (Below.trod laidOut (by kernel_rfl) (of_decide_eq_true (by kernel_rfl)) k1 bel lt1) (trodAll_cons_mk (shut_bool Try.underlying4 a2) (trodAll_cons_mk (Below.trod laidOut (by kernel_rfl) (of_decide_eq_true (by kernel_rfl)) k3 bel lt3) trodAll_mk0)))), rfl, bel.frame _, fun h => by cases h⟩
theorem over : Rows.fnOcfbBackRow.holds Try.pinned (OpenSpec.ofChange Rows.fnOcfbBackSpec) :=
  OpenClaim.holds_of_wide 6 Try.f6 rfl rfl rfl rfl rfl rfl rfl ⟨rfl, rfl, rfl, rfl, rfl⟩ rfl rfl rfl rfl rfl (by kernel_rfl) Try.func6 (by kernel_rfl)
    (of_decide_eq_true (by kernel_rfl)) (by unfold Func.isWrapper; first | (rw [if_pos (by decide +kernel)]; kernel_rfl) | (rw [if_neg (by decide +kernel)]; exact ⟨rfl, rfl⟩))
    (fun os started H enc _ => lifted os started H enc)
theorem proved : Rows.FnOcfbBackSaid := over
end Go.Proofs.Ytnhnfhdbbebclaa.fnOcfbBack
namespace Go.Proofs.Ytnhnfhdbbebclaa
theorem fnOcfbBack_row : Rows.FnOcfbBackSaid := fnOcfbBack.proved
#print axioms fnOcfbBack_row
end Go.Proofs.Ytnhnfhdbbebclaa
