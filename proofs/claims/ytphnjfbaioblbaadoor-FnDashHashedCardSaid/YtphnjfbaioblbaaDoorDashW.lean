/- The contract of the dash escaper's Write. PRINTED BY dwcut.py -/
import Derived.Test.YtphnjfbaioblbaaDoorDwR
set_option linter.unusedVariables false
set_option linter.unusedSimpArgs false
namespace Go.Proofs.YtphnjfbaioblbaaDoor
open Go.RowKit V
set_option maxRecDepth 1000000 in
set_option maxHeartbeats 4000000 in
theorem dashWrite_any (base d bf bb g gh by_ n L k c : Nat) (mp pt v : Value) (x : Int) (FB FH : Nat → Prop) (col : Nat → Nat) (A : Option Addr) (t ys : List Int) (w : World)
    (hd : Dsc base d bf bb g gh by_ mp pt w v n FB FH col L (dashed t) x) (hk : k = ys.length) (ht : t.length + k ≤ 3000) (hl : L + 8192 * k ≤ 140737488355000) (ry : Rf (fun b => b < w.heap.size ∧ col b = 0) w A ys) :
    Calls Tryd.prog 40 #[.pointer (some ⟨d, 0, none⟩), .slice A k c] w fun e w' => e = .returned (.tuple #[.int .i64 k, .nilIface]) ∧ ∃ v' n' FB' FH' col' x', Dq w col base d bf bb g gh by_ mp pt w' v' n' FB' FH' col' (L + 8192 * k) (dashed (t ++ ys)) x' := by
  have HK := As.mk hk
  have HRY := As.mk ry
  have HD0 : As (Dq w col base d bf bb g gh by_ mp pt w v n FB FH col (L + 8192 * 0) (dashed (t ++ ys.take 0)) x) := ⟨⟨by simpa using hd, Chg.refl _ _, fun _ _ => rfl⟩⟩
  clear hd hk ry
  go_enter Tryd.func40, Tryd.ntmps40
  go_wp2_with fail
  go_loopw [5, 7, 10] (fun e _ i w' => ∃ j : Nat, e = .nilIface ∧ i = .int .i64 j ∧ j ≤ k ∧ ∃ (v1 : Value) (n1 : Nat) (FB1 FH1 : Nat → Prop) (col1 : Nat → Nat) (x1 : Int), As (Dq w col base d bf bb g gh by_ mp pt w' v1 n1 FB1 FH1 col1 (L + 8192 * j) (dashed (t ++ ys.take j)) x1)) (fun _ _ i _ => k - (intOf i).toNat)
  case atStart => exact ⟨0, rfl, rfl, Nat.zero_le _, v, n, FB, FH, col, x, HD0⟩
  case round =>
    obtain ⟨j, rfl, rfl, hj, v1, n1, FB1, FH1, col1, x1, HD⟩ := hrel
    clear HD0
    by_cases hlt : j < k
    · have hltz : (j : Int) < (k : Int) := by omega
      obtain ⟨b, hbb⟩ : ∃ b, b = ys[j]'(by have := HK.out; omega) := ⟨_, rfl⟩
      have HTK : As (dashed (t ++ ys.take (j + 1)) = dashStep (dashed (t ++ ys.take j)) b) := ⟨by rw [List.take_succ_eq_append_getElem (by have := HK.out; omega), ← List.append_assoc, dashed_snoc, ← hbb]⟩
      have hln : (dashed (t ++ ys.take j)).ws.length ≤ 3000 ∧ (dashed (t ++ ys.take j)).out.length ≤ 9000 := by
        have h := dashed_len (t ++ ys.take j)
        rw [List.length_append, List.length_take] at h
        omega
      obtain ⟨ad, eA, hcx⟩ := (HRY.out.chg HD.out.chg (fun b _ h e => e h.2)).1.at_ (j : Int) (by omega) (by have := HK.out; omega)
      have hrd : rd ys (j : Int) = b := by rw [hbb]; simp [rd, List.getD_eq_getElem?_getD, List.getElem?_eq_getElem (show j < ys.length by have := HK.out; omega)]
      rw [hrd, Int.toNat_natCast] at hcx
      subst eA
      clear hrd hbb
      generalize dashed (t ++ ys.take j) = s at *
      obtain ⟨beg, fq, ws, out⟩ := s
      have h1 : L + 8192 * j + 8192 = L + 8192 * (j + 1) := by omega
      have HLB : As (L + 8192 * j + 8192 ≤ 140737488355000) := ⟨by omega⟩
      obtain ⟨A0, c0, hv1, hmc, _⟩ := ow_form (ow_of HD.out.ds.ws)
      simp only at hv1 hmc hln
      have e1 : IntKind.i64.wrap ((j : Int) + 1) = ((j + 1 : Nat) : Int) := by rw [IntKind.wrap_i64]; omega
      subst hv1
      refine dw_round hcx hltz e1 HD ⟨rfl⟩ ⟨hmc⟩ ⟨hln.1⟩ HLB ⟨hln.2⟩ ⟨?_⟩
      intro wx v3 n3 FB3 FH3 col3 h3 i hi
      intros
      rw [h1, ← HTK.out] at h3
      have HX := As.mk h3
      clear h3
      dsimp only
      go_roundw
      case rel => exact ⟨j + 1, rfl, by rw [hi]; rfl, by omega, v3, n3, FB3, FH3, col3, b, HX⟩
      case measure => rw [hi]; simp [intOf]; omega
    · have hz : ¬ ((j : Int) < (k : Int)) := by omega
      have hjk : j = k := by omega
      have HE : As (Dq w col base d bf bb g gh by_ mp pt wr v1 n1 FB1 FH1 col1 (L + 8192 * k) (dashed (t ++ ys)) x1) := ⟨by have h := HD.out; rw [hjk, show ys.take k = ys by rw [HK.out, List.take_length]] at h; exact h⟩
      clear hjk HD
      go_wp2_with fail
      go_ret2
      exact ⟨rfl, v1, n1, FB1, FH1, col1, x1, HE.out⟩
end Go.Proofs.YtphnjfbaioblbaaDoor
