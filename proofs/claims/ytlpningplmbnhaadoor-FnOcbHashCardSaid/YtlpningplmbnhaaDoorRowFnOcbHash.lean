/- The row of FnOcbHash: from the given statement to the walk's theorem. -/
import Derived.Test.YtlpningplmbnhaaDoorRows
import Derived.Test.YtlpningplmbnhaaDoorFOch
import Derived.WalkKit
import Derived.ProofKit
import Derived.OpenShut
import Derived.ShutString
import Derived.ChangeOld
import Derived.Below
import Derived.SizedLaws
import Derived.Test.YtlpningplmbnhaaDoorCards
import Derived.Test.YtlpningplmbnhaaDoorTie
import Derived.Test.YtlpningplmbnhaaDoorOcD
import Derived.SevenTiedAt
import Derived.JoinedOf
import Derived.LaidLaws
import Derived.RowKitTokens
import Derived.Test.YtlpningplmbnhaaDoorSized
import Derived.Test.YtlpningplmbnhaaDoorBlockArg
namespace Go.Proofs.YtlpningplmbnhaaDoor.fnOcbHash
open Go.ChangeShapes Go.WideShapes Go.ChangeAt Go.RowKit V
open Go.ChangeMaps (open_string shut_string)
set_option linter.unusedVariables false
set_option maxRecDepth 100000 in
theorem lifted (os : Os) (started : os.Started) (H : Type) (enc : TypeId × Value → H) :
    ReturnsInHanded {} Tryd.checked os 3 .any (fun w args => (Rows.fnOcbHashSpec.pre enc Tryd.prog Tryd.f3 [] false w args ∧ laidMet Tryd.prog [("math/bits.deBruijn32tab", Rows.laid_math_bits_deBruijn32tab), ("math/bits.deBruijn64tab", Rows.laid_math_bits_deBruijn64tab)] w) ∧ sizedMet enc Tryd.prog Tryd.f3 (OpenSpec.ofChange Rows.fnOcbHashSpec) false w args)
      (Rows.fnOcbHashSpec.post enc Tryd.prog Tryd.f3 false true false false) := by
  refine returnsInHanded_of_change_and (C := Tryd.checked) (X := fun w _ => laidMet Tryd.prog [("math/bits.deBruijn32tab", Rows.laid_math_bits_deBruijn32tab), ("math/bits.deBruijn64tab", Rows.laid_math_bits_deBruijn64tab)] w) (fun _ _ _ hh h => h.of_heap hh) own started (by kernel_rfl) Tryd.func3
    (ChangeSpec.witness_at (enc := enc) (C := Tryd.checked) (os := os) (X := fun w _ => laidMet Tryd.prog [("math/bits.deBruijn32tab", Rows.laid_math_bits_deBruijn32tab), ("math/bits.deBruijn64tab", Rows.laid_math_bits_deBruijn64tab)] w) false (laidWorld2 os) #[.agg #[.slice none 0 0, .slice none 0 0, .slice none 0 0], .slice none 0 0] 8 rfl (by kernel_rfl) (by kernel_rfl) (by kernel_rfl) (by kernel_rfl) (by kernel_rfl) (laidWorld2_met os _)) ?_
  intro W base args ds gs before hval0 hW _ hsz0 hL _
  have hsz : (DataW.weightsEach Tryd.prog (Tryd.f3.params.toList ++ Rows.fnOcbHashSpec.plain.varTypes Tryd.prog) (ds ++ gs)).all (· ≤ reachBytes) = true := hsz0
  have hval : ∀ (j : Nat) t v, Tryd.f3.params[j]? = some t → args[j]? = some v → Value.okWide Tryd.prog W .any base t v := hval0
  have hW' := hW
  obtain ⟨p, q, hA0, hV, rfl, hfz, hnd⟩ := hW
  have hA : DataW.TrodAll enc Tryd.prog W 0 (fun _ => true) true Tryd.f3.params.toList args.toList ds p := hA0
  rw [Tryd.params3] at hA hval hsz
  obtain ⟨v0, vs0, d0, ds0, p0, q0, hargs, rfl, rfl, h0, r0⟩ := trodAll_cons hA
  obtain ⟨v1, vs1, d1, ds1, p1, q1, rfl, rfl, rfl, h1, r1⟩ := trodAll_cons r0
  obtain ⟨rfl, rfl, rfl⟩ := trodAll_nil r1
  obtain rfl : args = #[v0, v1] := by cases args; simp_all
  obtain ⟨rfl, rfl⟩ := trodVars_none hV
  have k0 := h0
  have lt0 : ∀ x ∈ p0, x.block < W.heap.size := by obtain ⟨m, hm⟩ := k0; exact DataW.trod_lt m _ _ _ hm
  obtain ⟨A0, cap0, xs0, B0, dap0, zs0, C0, eap0, us0, rfl, hx0, hb0, hz0, hd0, hu0, he0⟩ := open_block Tryd.underlying24 (by kernel_rfl) (by kernel_rfl) rfl rfl rfl Tryd.underlying22 Tryd.underlying5 (by kernel_rfl) (hval 0 24 v0 rfl rfl) h0
  obtain ⟨A1, len1, cap1, rfl⟩ := okWide_slice Tryd.underlying22 (hval 1 22 v1 rfl rfl)
  have k1 := h1
  have lt1 : ∀ x ∈ p1, x.block < W.heap.size := by obtain ⟨m, hm⟩ := k1; exact DataW.trod_lt m _ _ _ hm
  have y1 : len1 * 1 ≤ 140737488351232 := sized_ints hsz (j := 1) (t := 22) rfl rfl Tryd.underlying22 Tryd.underlying5 (by kernel_rfl) (by kernel_rfl) h1
  obtain ⟨xs1, rfl, hc1, hx1, hb1⟩ := open_bytes Tryd.underlying22 Tryd.underlying5 (by kernel_rfl) h1
  clear hA0 hval0 hsz0 hsz
  obtain ⟨a0_, a1_, hS⟩ := sent_of_laid2 hL
  refine (fnOcbHash_walk A0 cap0 xs0 B0 dap0 zs0 C0 eap0 us0 A1 cap1 xs1 W a0_ a1_ hS hx0 hb0 hz0 hd0 hu0 he0 hx1 hc1 hb1 (by omega)).mono fun e W' ⟨he, bel⟩ => ?_
  subst he
  exact ⟨_, rfl, _, _, _, [], _, [], hW', trodAll_mk1 (shut_bool Tryd.underlying4 _), (trodAll_cons_mk (Below.trod laidOut (by kernel_rfl) (of_decide_eq_true (by kernel_rfl)) k0 bel lt0) (trodAll_cons_mk (Below.trod laidOut (by kernel_rfl) (of_decide_eq_true (by kernel_rfl)) k1 bel lt1) trodAll_mk0)), rfl, bel.frame _, fun h => by cases h⟩
theorem over : Rows.fnOcbHashRow.holds Tryd.pinned (OpenSpec.ofChange Rows.fnOcbHashSpec) :=
  OpenClaim.holds_of_wide 3 Tryd.f3 rfl rfl rfl rfl rfl rfl rfl ⟨rfl, rfl, rfl, rfl, rfl⟩ rfl rfl rfl rfl rfl (by kernel_rfl) Tryd.func3 (by kernel_rfl)
    (of_decide_eq_true (by kernel_rfl)) (by unfold Func.isWrapper; first | (rw [if_pos (by decide +kernel)]; kernel_rfl) | (rw [if_neg (by decide +kernel)]; exact ⟨rfl, rfl⟩))
    (fun os started H enc _ => lifted os started H enc)
theorem proved : Rows.FnOcbHashCardSaid :=
  Claim7.holds_tied_plain_at .later [] [.data, .data] true (true, "1d594f8bfce4494dec89aa7e4415c20a9f0f7bfd1cc459a56d97a95385adb331") false
    over (fun _ h => by cases h) (by kernel_rfl) (fun _ h => by cases h) fnOcbHash_row_tie rfl ⟨rfl, rfl⟩ (by kernel_rfl) rfl
    (fun f fn hf hfn => by
      obtain rfl : f = 3 := Option.some.inj ((show Tryd.prog.funcNamed "pub-counterseal/laws.FnOcbHash" = some 3 by kernel_rfl).symm.trans hf) |>.symm
      obtain rfl : fn = Tryd.f3 := (Option.some.inj (Tryd.func3.symm.trans hfn)).symm
      exact ⟨by kernel_rfl, fun j t ht => by
        rw [Tryd.params3] at ht
        have h3 : t = 22 ∨ t = 24 := by
          rcases j with _ | _ | j
          · simp at ht; exact (.inr ht.symm)
          · simp at ht; exact (.inl ht.symm)
          · simp at ht
        rcases h3 with rfl | rfl
        · exact (show Tryd.prog.wantsStandIn 22 = false by kernel_rfl)
        · exact (show Tryd.prog.wantsStandIn 24 = false by kernel_rfl)
        ⟩)
    (by kernel_rfl)
end Go.Proofs.YtlpningplmbnhaaDoor.fnOcbHash
namespace Go.Proofs.YtlpningplmbnhaaDoor
theorem fnOcbHash_row : Rows.FnOcbHashCardSaid := fnOcbHash.proved
#print axioms fnOcbHash_row
end Go.Proofs.YtlpningplmbnhaaDoor
