/- The contracts of spec.lAst, lDol, lAt over a block cipher of plain data. -/
import Derived.Test.YtlpningplmbnhaaDoorOcP
import Derived.Deep.DeepCutAuto
set_option linter.unusedVariables false
set_option linter.unusedSimpArgs false
namespace Go.Proofs.YtlpningplmbnhaaDoor
open Go.RowKit V
theorem na_sen (v1 v2 v3 : Value) (w : World) : (nilAhead 193 48 (.agg #[v1, v2, v3]) "Encipher").run Tryd.prog w = .ok (some false) w := by kernel_rfl
theorem me_sen (v1 v2 v3 : Value) (w : World) : (method 193 48 (.agg #[v1, v2, v3]) "Encipher").run Tryd.prog w = .ok (52, .agg #[v1, v2, v3]) w := by kernel_rfl
/-- A cipher of plain data: its parts read. -/
structure Pd (w : World) (PA : Option Addr) (SA : Option Addr) (MA : Option Addr) (perm sub mask : List Int) : Prop where
  rp : Rb w PA perm
  rs : Rb w SA sub
  rm : Rb w MA mask
theorem Pd.keep {w w' : World} {PA SA MA : Option Addr} {perm sub mask : List Int} (h : Pd w PA SA MA perm sub mask) (hc : Chg NoB w w') : Pd w' PA SA MA perm sub mask := ⟨h.rp.keep hc, h.rs.keep hc, h.rm.keep hc⟩
/-- .. and the cipher is right, of 16 bytes. -/
structure Rt (perm sub mask : List Int) : Prop where
  hr : RightB perm sub 16
  hm : mask.length = 16
  bs : Byt sub
  bm : Byt mask
theorem enc16 {PA : Option Addr} {pc : Nat} {SA : Option Addr} {sc : Nat} {MA : Option Addr} {mc : Nat} {perm sub mask : List Int} {w : World} (h : Pd w PA SA MA perm sub mask) (r : Rt perm sub mask) {XA : Option Addr} {xc : Nat} {xs : List Int} (rx : Rb w XA xs) (bx : Byt xs) (hx : 16 = xs.length) :
    Calls Tryd.prog 52 #[.agg #[.slice PA 16 pc, .slice SA 256 sc, .slice MA 16 mc], .slice XA 16 xc] w (Gives NoB w (encL perm sub mask xs)) :=
  encipher_any PA 16 pc SA sc MA mc perm sub mask XA xc xs w r.hr r.hm r.bs r.bm h.rp h.rs h.rm rx bx hx
theorem padded16 (A : Option Addr) (n c : Nat) (xs : List Int) (w : World) (hn : n = xs.length) (rx : Rb w A xs) (hs : n < 16) :
    Calls Tryd.prog 20 #[.slice A n c, .int .i64 16] w (Gives NoB w (padB xs 16)) := paddedBlock_any A n c xs 16 w hn rx hs (by omega)
/-- A cipher of plain data, as an interface's value. -/
abbrev dataV (PA : Option Addr) (pc : Nat) (SA : Option Addr) (sc : Nat) (MA : Option Addr) (mc : Nat) : Value := .iface 48 (.agg #[.slice PA 16 pc, .slice SA 256 sc, .slice MA 16 mc])
set_option maxRecDepth 100000 in
set_option maxHeartbeats 1000000 in
theorem lAst_any (PA : Option Addr) (pc : Nat) (SA : Option Addr) (sc : Nat) (MA : Option Addr) (mc : Nat) (perm sub mask : List Int) (w : World) (hd : Pd w PA SA MA perm sub mask) (hrt : Rt perm sub mask) :
    Calls Tryd.prog 19 #[dataV PA pc SA sc MA mc] w (Gives NoB w (lAstL perm sub mask)) := by
  have PD := As.mk hd
  have RT_ := As.mk hrt
  have na := na_sen
  have me := me_sen
  have hmk : ∀ W : World, (Instr.makeSlice 22 (.int .i64 16) (.int .i64 16)).run Tryd.prog W = .ok (.slice (some ⟨W.heap.size, 0, none⟩) 16 16) (W.alloc (.cells (madeCells #[.int .u8 0] 16) 5)) := run_make_k (P := Tryd.prog) 22 5 .u8 1 Tryd.underlying22 info8 (by decide) 16 (by omega)
  have HB : As (Chg NoB w w) := ⟨Chg.refl _ _⟩
  clear hd hrt
  unfold dataV
  go_enter Tryd.func19, Tryd.ntmps19
  go_wp2_with fail
  go_region_law (first
      | (go_simp
         refine (enc16 (PD.out.keep ?c1) RT_.out (xs := List.replicate 16 0) ?rr (zeros_byt 16) (by simp)).mono ?_
         case c1 => exact (by repeat (first | (with_reducible exact HB.out) | (with_reducible apply Chg.drew) | (with_reducible apply Chg.alloc)))
         case rr => first | exact own_reads (own_made _ 0 _ _ 16 (Nat.zero_le _) (by simp [maxLen])) | exact Rk.drew (own_reads (own_made _ 0 _ _ 16 (Nat.zero_le _) (by simp [maxLen])))
         rintro e6 w6 ⟨v6, rfl, ho6, hc6⟩
         have O6 := As.mk (own_lower (base' := w.heap.size) ho6 (Chg.size (S := NoB) (by repeat (first | (with_reducible exact HB.out) | (with_reducible apply Chg.drew) | (with_reducible apply Chg.alloc)))))
         have HB6 : As (Chg NoB w w6) := ⟨Chg.trans (by repeat (first | (with_reducible exact HB.out) | (with_reducible apply Chg.drew) | (with_reducible apply Chg.alloc))) hc6 (fun _ _ e => e)⟩
         clear ho6 hc6 HB))
  all_goals
    go_wp2_with fail
    go_ret
    exact ⟨v6, rfl, O6.out, HB6.out⟩
set_option maxRecDepth 100000 in
set_option maxHeartbeats 1000000 in
theorem lDol_any (PA : Option Addr) (pc : Nat) (SA : Option Addr) (sc : Nat) (MA : Option Addr) (mc : Nat) (perm sub mask : List Int) (w : World) (hd : Pd w PA SA MA perm sub mask) (hrt : Rt perm sub mask) :
    Calls Tryd.prog 26 #[dataV PA pc SA sc MA mc] w (Gives NoB w (dbl (lAstL perm sub mask))) := by
  have H1 := As.mk (lAst_any PA pc SA sc MA mc perm sub mask w hd hrt)
  have RT_ := As.mk hrt
  clear hd hrt
  go_enter Tryd.func26, Tryd.ntmps26
  go_wp2_with fail
  refine H1.out.mono ?_
  rintro e1 w1 ⟨v1, rfl, ho1, hc1⟩
  obtain ⟨g1, c1, hv1, _, _, _⟩ := own_form_pos ho1 (by rw [lAstL_length RT_.out.hm]; omega)
  rw [lAstL_length RT_.out.hm] at hv1
  subst hv1
  have R1 := As.mk (own_reads ho1)
  have C1 := As.mk hc1
  clear ho1 hc1 H1
  go_wp2_with fail
  refine (doubled_any (some ⟨g1, 0, none⟩) c1 (lAstL perm sub mask) w1 (lAstL_length RT_.out.hm) R1.out (lAstL_byt RT_.out.bs RT_.out.bm)).mono ?_
  rintro e2 w2 ⟨v2, rfl, ho2, hc2⟩
  have O2 := As.mk (own_lower (base' := w.heap.size) ho2 C1.out.size)
  have C2 := As.mk (C1.out.trans hc2 (fun _ _ e => e))
  clear ho2 hc2
  go_wp2_with fail
  go_ret
  exact ⟨v2, rfl, O2.out, C2.out⟩
set_option maxRecDepth 100000 in
set_option maxHeartbeats 1000000 in
theorem lAt_any (PA : Option Addr) (pc : Nat) (SA : Option Addr) (sc : Nat) (MA : Option Addr) (mc : Nat) (perm sub mask : List Int) (i : Nat) (w : World) (hd : Pd w PA SA MA perm sub mask) (hrt : Rt perm sub mask) (hi : i ≤ 64) :
    Calls Tryd.prog 17 #[dataV PA pc SA sc MA mc, .int .i64 i] w (Gives NoB w (lAtL perm sub mask i)) := by
  have H1 := As.mk (lDol_any PA pc SA sc MA mc perm sub mask w hd hrt)
  have HBL := As.mk (dbl_byt (lAstL perm sub mask))
  clear hd hrt
  go_enter Tryd.func17, Tryd.ntmps17
  go_wp2_with fail
  refine H1.out.mono ?_
  rintro e1 w1 ⟨v1, rfl, ho1, hc1⟩
  obtain ⟨g1, c1, hv1, _, _, _⟩ := own_form_pos ho1 (by rw [dbl_length]; omega)
  rw [dbl_length] at hv1
  subst hv1
  have R1 := As.mk (own_reads ho1)
  have C1 := As.mk hc1
  clear ho1 hc1 H1
  go_wp2_with fail
  refine (doubled_any (some ⟨g1, 0, none⟩) c1 (dbl (lAstL perm sub mask)) w1 (dbl_length _) R1.out HBL.out).mono ?_
  rintro e2 w2 ⟨v2, rfl, ho2, hc2⟩
  have O2 := As.mk (own_lower (base' := w.heap.size) ho2 C1.out.size)
  have C2 := As.mk (C1.out.trans hc2 (fun _ _ e => e))
  clear ho2 hc2 R1 C1
  go_wp2_with fail
  go_loopw [5, 10] (fun v kv wr => ∃ (k : Nat) (u : Value), u = v ∧ k ≤ i ∧ kv = .int .i64 k ∧ As (Own wr w.heap.size 5 .u8 u (lAtL perm sub mask k)) ∧ As (Chg NoB w wr)) (fun _ kv _ => i - (intOf kv).toNat)
  case atStart => exact ⟨0, _, rfl, Nat.zero_le _, rfl, O2, C2⟩
  case round =>
    clear O2 C2
    obtain ⟨k, u, rfl, hk, rfl, HO, HC⟩ := hrel
    obtain ⟨g, c, rfl, _, _, _⟩ := own_form_pos HO.out (by rw [lAtL_length]; omega)
    rw [lAtL_length] at HO ⊢
    by_cases hlt : k < i
    · have hki : (k : Int) < (i : Int) := by omega
      have HBK := As.mk (lAtL_byt perm sub mask k)
      go_wp2_with fail
      refine (doubled_any (some ⟨g, 0, none⟩) c (lAtL perm sub mask k) wr (lAtL_length _ _ _ _) (own_reads HO.out) HBK.out).mono ?_
      rintro e3 w3 ⟨v3, rfl, ho3, hc3⟩
      have O3 : As (Own w3 w.heap.size 5 .u8 v3 (lAtL perm sub mask (k + 1))) := ⟨own_lower (base' := w.heap.size) ho3 HC.out.size⟩
      have C3 := As.mk (HC.out.trans hc3 (fun _ _ e => e))
      clear ho3 hc3
      go_wp2_with fail
      go_roundw
      case rel => exact ⟨k + 1, v3, rfl, by omega, by go_num, O3, C3⟩
      case measure => simp [intOf]; omega
    · obtain rfl : k = i := by omega
      go_wp2_with fail
      go_ret
      exact ⟨_, rfl, HO.out, HC.out⟩
end Go.Proofs.YtlpningplmbnhaaDoor
