/- The contracts of spec.stretched and spec.S2kSalted over the mixer of a given Hash. -/
import Derived.Test.YtmokepbmodmgeaaMixer
import Derived.Deep.RegionLaw
set_option linter.unusedVariables false
set_option linter.unusedSimpArgs false
namespace Go.Proofs.Ytmokepbmodmgeaa
open Go.RowKit V
theorem na_msum (v1 v2 : Value) (w : World) : (nilAhead 192 51 (.agg #[v1, v2]) "Sum").run Try.prog w = .ok (some false) w := by kernel_rfl
theorem me_msum (v1 v2 : Value) (w : World) : (method 192 51 (.agg #[v1, v2]) "Sum").run Try.prog w = .ok (48, .agg #[v1, v2]) w := by kernel_rfl
set_option maxRecDepth 100000 in
set_option maxHeartbeats 1000000 in
theorem stretched_any (SA : Option Addr) (sc : Nat) (MA : Option Addr) (n mc : Nat) (sub mask : List Int) (size : Nat) (TA : Option Addr) (tn tc : Nat) (text : List Int) (w : World) (hs : sub.length = 256) (hm : mask.length = n) (hn1 : 1 ≤ n) (hn2 : n ≤ 64) (rs : Rb w SA sub) (rm : Rb w MA mask) (bs : Byt sub) (bm : Byt mask) (ht : Rb w TA text) (htn : tn = text.length) (htb : tn ≤ 8589934592) (bt : Byt text) (hsz : size ≤ 65536) :
    Calls Try.prog 25 #[.iface 51 (.agg #[.slice SA 256 sc, .slice MA n mc]), .int .i64 size, .slice TA tn tc] w (Gives NoB w (stretch sub n mask text size)) := by
  have RS := As.mk rs
  have RM := As.mk rm
  have RT := As.mk ht
  have HBB := As.mk (And.intro bs bm)
  have HBT := As.mk bt
  have HS := As.mk hs
  have HMN := As.mk hm
  have HT := As.mk htn
  have m1 := me_msum
  have n1 := na_msum
  clear rs rm ht bs bm bt hs hm htn
  go_enter Try.func25, Try.ntmps25
  go_wp2_with fail
  go_loopw [7, 8] (fun v i wr => ∃ (k m : Nat) (A : Option Addr) (c : Nat), v = .slice A m c ∧ m ≤ c ∧ i = .int .i64 k ∧ k ≤ size ∧ As (m = k * n) ∧ As (Own wr w.heap.size 5 .u8 (.slice A m c) (strm sub n mask text k)) ∧ As (Chg NoB w wr)) (fun _ i _ => size - (intOf i).toNat)
  case atStart => exact ⟨0, 0, none, 0, rfl, Nat.le_refl _, rfl, Nat.zero_le _, ⟨by omega⟩, ⟨own_nil _ _ _ _⟩, ⟨Chg.refl _ _⟩⟩
  case round =>
    obtain ⟨k, m, A, c, rfl, hmc, rfl, hk, HM, HO, HC⟩ := hrel
    by_cases hlt : m < size
    · have hkm : k ≤ m := by
        have h2 : k ≤ k * n := Nat.le_mul_of_pos_right _ (by omega)
        have := HM.out
        omega
      have hks : k < size := by omega
      have hmk := run_make_k (P := Try.prog) 22 5 .u8 1 Try.underlying22 info8 (by decide) k (by omega)
      have HL20 : As ((List.replicate k (0 : Int) ++ text).length = k + tn) := ⟨by simp [HT.out]⟩
      have HLS := As.mk (sumOf_length (text := text) HBB.out.1 HBB.out.2 HMN.out hn1 k)
      have HLST := As.mk (strm_length (text := text) HBB.out.1 HBB.out.2 HMN.out hn1 k)
      have HB : As (Chg NoB wr wr) := ⟨Chg.refl _ _⟩
      have hws : As (w.heap.size ≤ wr.heap.size) := ⟨HC.out.size⟩
      go_wp2_with fail
      go_region_law (first
        | (refine step_append_ow (N := 20) rfl rfl _ _ 22 rfl 5 .u8 1 Try.underlying22 info8 (by decide) _ w.heap.size (List.replicate k 0) text TA tn tc rfl rfl HT.out (ow_of (own_made _ w.heap.size _ _ k ?b1 ?b2)) ((RT.out.keep HC.out).keep ?r1) ?r2 ?r3 ?_
           case b1 => exact hws.out
           case b2 => (simp only [maxLen]; omega)
           case r1 => exact (by repeat (first | (with_reducible exact HB.out) | (with_reducible apply Chg.drew) | (with_reducible apply Chg.alloc)))
           case r2 => exact Nat.le_trans hws.out (Chg.size (S := NoB) (by repeat (first | (with_reducible exact HB.out) | (with_reducible apply Chg.drew) | (with_reducible apply Chg.alloc))))
           case r3 => (have := HT.out; rw [List.length_replicate]; omega)
           intro v20 w20 ho20 hc20
           obtain ⟨A20, c20, hv20, _, hr20⟩ := ow_form ho20
           rw [HL20.out] at hv20
           subst hv20
           have HR20 := As.mk hr20
           have HB20 : As (Chg NoB wr w20) := ⟨Chg.trans (by repeat (first | (with_reducible exact HB.out) | (with_reducible apply Chg.drew) | (with_reducible apply Chg.alloc))) hc20 (fun b hb e => by
             have h1 := Option.some.inj e.2
             subst h1
             exact absurd hb (Nat.lt_irrefl _))⟩
           clear HB ho20 hc20 hr20
           have HB := HB20
           clear HB20
           have HSUM : As (∀ w', Chg NoB w20 w' → Calls Try.prog 48 #[.agg #[.slice SA 256 sc, .slice MA n mc], .slice A20 (k + tn) c20] w' (Gives NoB w' (sumOf sub n mask text k))) := ⟨fun w' h => mixSum_any SA sc MA n mc sub mask A20 (k + tn) c20 (List.replicate k 0 ++ text) w' HS.out HMN.out hn1 hn2 (((RS.out.keep HC.out).keep HB.out).keep h) (((RM.out.keep HC.out).keep HB.out).keep h) HBB.out.1 HBB.out.2 (HR20.out.keep h) HL20.out.symm (Byt.append (fun x hx => by rw [List.mem_replicate] at hx; rw [hx.2]; exact ⟨by decide, by decide⟩) HBT.out)⟩)
        | (go_simp
           refine (HSUM.out _ ?hc0).mono ?_
           case hc0 => repeat (first | exact Chg.refl _ _ | (with_reducible apply Chg.drew) | (with_reducible apply Chg.alloc))
           rintro e6 w6 ⟨v6, rfl, ho6, hc6⟩
           obtain ⟨A6, c6, hv6, hl6, hr6⟩ := ow_form (ow_of ho6)
           rw [HLS.out] at hv6
           subst hv6
           have HR6 := As.mk hr6
           have HB6 : As (Chg NoB wr w6) := ⟨HB.out.trans (Chg.trans (S := NoB) (by repeat (first | exact Chg.refl _ _ | (with_reducible apply Chg.drew) | (with_reducible apply Chg.alloc))) hc6 (fun _ _ e => e)) (fun _ _ e => e)⟩
           clear HB ho6 hc6 hr6
           have HB := HB6
           clear HB6)
        | (refine step_append_ow (N := 25) rfl rfl _ _ 22 rfl 5 .u8 1 Try.underlying22 info8 (by decide) (.slice A m c) w.heap.size (strm sub n mask text k) (sumOf sub n mask text k) A6 n c6 rfl rfl HLS.out.symm (ow_of (own_keep HO.out ?q1)) (HR6.out.keep ?q2) ?q3 ?q4 ?_
           case q1 => exact (by repeat (first | (with_reducible exact HB.out) | (with_reducible apply Chg.drew) | (with_reducible apply Chg.alloc)))
           case q2 => repeat (first | exact Chg.refl _ _ | (with_reducible apply Chg.drew) | (with_reducible apply Chg.alloc))
           case q3 => exact Nat.le_trans hws.out (Chg.size (S := NoB) (by repeat (first | (with_reducible exact HB.out) | (with_reducible apply Chg.drew) | (with_reducible apply Chg.alloc))))
           case q4 => (rw [HLST.out, HLS.out, ← HM.out]; omega)
           intro v25 w25 ho25 hc25
           have hne : 0 < (strm sub n mask text k ++ sumOf sub n mask text k).length := by rw [List.length_append, HLS.out]; omega
           have hw25 := ow_own ho25 hne
           obtain ⟨A25, c25, hv25, hl25, _⟩ := ow_form (ow_of hw25)
           rw [show (strm sub n mask text k ++ sumOf sub n mask text k).length = m + n from by rw [List.length_append, HLS.out, HLST.out, HM.out]] at hv25 hl25
           subst hv25
           have HO25 : As (Own w25 w.heap.size 5 .u8 (.slice A25 (m + n) c25) (strm sub n mask text (k + 1))) := ⟨hw25⟩
           have HB25 : As (Chg NoB w w25) := ⟨(HC.out.trans (Chg.trans (S := NoB) (by repeat (first | (with_reducible exact HB.out) | (with_reducible apply Chg.drew) | (with_reducible apply Chg.alloc))) (Chg.refl _ _) (fun _ _ e => e)) (fun _ _ e => e)).trans hc25 (fun b hb e => by have := e.1; omega)⟩
           clear HB ho25 hc25 hw25 hne))
      all_goals
        go_wp2_with fail
        go_roundw
        case rel => exact ⟨k + 1, m + n, A25, c25, rfl, hl25, by go_num, by omega, ⟨by rw [Nat.add_mul, HM.out, Nat.one_mul]⟩, HO25, HB25⟩
        case measure => simp [intOf]; omega
    · have hcut0 := cut_to (P := Try.prog) 22 5 Try.underlying22 size8 A m c (size : Int) .i64 size rfl (by omega)
      go_wp2_with fail
      go_ret
      refine ⟨_, rfl, ?_, HC.out⟩
      have h1 := own_take HO.out size (by rw [strm_length HBB.out.1 HBB.out.2 HMN.out hn1, ← HM.out]; omega)
      rw [strm_take HBB.out.1 HBB.out.2 HMN.out hn1 (j := size) (by rw [← HM.out]; omega) (Nat.le_mul_of_pos_right _ (by omega))] at h1
      rw [List.length_take, strm_length HBB.out.1 HBB.out.2 HMN.out hn1, Nat.min_eq_left (Nat.le_mul_of_pos_right _ (by omega))] at h1
      exact h1
end Go.Proofs.Ytmokepbmodmgeaa
