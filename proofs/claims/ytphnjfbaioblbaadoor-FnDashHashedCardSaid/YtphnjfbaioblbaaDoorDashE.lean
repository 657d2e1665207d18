/- The contract of impl.DashEscape. -/
import Derived.Test.YtphnjfbaioblbaaDoorDashW
import Derived.Test.YtphnjfbaioblbaaDoorNewW
import Derived.Test.YtphnjfbaioblbaaDoorRwsB
import Derived.Deep.RegionLaw
import Derived.Deep.DeepMust
set_option linter.unusedVariables false
set_option linter.unusedSimpArgs false
namespace Go.Proofs.YtphnjfbaioblbaaDoor
open Go.RowKit V
theorem nil_aheadD (a : Addr) (w : World) : (nilAhead 239 46 (.pointer (some a)) "Write").run Tryd.prog w = .ok (some false) w := by kernel_rfl
theorem method_writeD (a : Addr) (w : World) : (method 239 46 (.pointer (some a)) "Write").run Tryd.prog w = .ok (40, .pointer (some a)) w := by kernel_rfl
theorem Dsc.beyond {base d bf bb g gh by_ : Nat} {mp pt : Value} {w w1 w' : World} {v v' : Value} {n n' : Nat} {FB FH FB' FH' : Nat → Prop} {col col' : Nat → Nat} {L L' : Nat} {s s' : Dst} {x x' : Int} (h : Dsc base d bf bb g gh by_ mp pt w v n FB FH col L s x) (hc : Chg NoB w1 w) (hb : w1.heap.size ≤ base) (q : Dq w col base d bf bb g gh by_ mp pt w' v' n' FB' FH' col' L' s' x') : Chg NoB w1 w' :=
  hc.trans q.chg (fun i hi e => by have := h.lo i e; omega)
set_option maxRecDepth 100000 in
set_option maxHeartbeats 4000000 in
theorem dashEscape_any (A : Option Addr) (n c : Nat) (vs : List Sl) (xss : List (List Int)) (w : World) (hn : n = vs.length) (hr : Rrs w A vs xss) (hl : xss.flatten.length ≤ 3000) :
    Calls Tryd.prog 6 #[.slice A n c] w fun e w' => ∃ v1 v2, e = .returned (.tuple #[v1, v2]) ∧ Own w' w.heap.size 5 .u8 v2 (dashed xss.flatten).out ∧ Chg NoB w w' := by
  have HR := As.mk hr
  have HN := As.mk hn
  have HL := As.mk hl
  have hm : n ≤ 9223372036854775806 := by have := hr.1.1; omega
  have na := nil_aheadD
  have mw := method_writeD
  clear hr hn hl
  go_enter Tryd.func6, Tryd.ntmps6
  go_wp2_with fail
  have hz1 : (w.alloc (.cells #[.slice none 0 0] 33)).heap.size = w.heap.size + 1 := Array.size_push _
  have hb1 := Blk.new w 33 [.slice none 0 0]
  have hb2 := Blk.new (w.alloc (.cells #[.slice none 0 0] 33)) 33 [.slice none 0 0]
  rw [hz1] at hb2
  have hc2 := ((Chg.refl NoB w).alloc (.cells #[.slice none 0 0] 33)).alloc (.cells #[.slice none 0 0] 33)
  have HS1 : As (Snk ((w.alloc (.cells #[.slice none 0 0] 33)).alloc (.cells #[.slice none 0 0] 33)) w.heap.size w.heap.size (fun b => b = w.heap.size) []) := ⟨_, hb1.alloc _, own_nil _ _ _ _, by simp [Value.ownBlock], fun b => by simp [Value.ownBlock]⟩
  have HS2 : As (Snk ((w.alloc (.cells #[.slice none 0 0] 33)).alloc (.cells #[.slice none 0 0] 33)) w.heap.size (w.heap.size + 1) (fun b => b = w.heap.size + 1) []) := ⟨_, hb2, own_nil _ _ _ _, by simp [Value.ownBlock], fun b => by simp [Value.ownBlock]⟩
  have HC2 := As.mk hc2
  clear hb1 hb2 hc2 hz1
  obtain ⟨gh, hgh⟩ : ∃ gh, gh = w.heap.size + 1 := ⟨_, rfl⟩
  obtain ⟨g, hg⟩ : ∃ g, g = w.heap.size := ⟨_, rfl⟩
  rw [← hgh] at HS2
  have HGH := As.mk hgh
  have HG := As.mk hg
  have HS1' : As (Snk ((w.alloc (.cells #[.slice none 0 0] 33)).alloc (.cells #[.slice none 0 0] 33)) w.heap.size g (fun b => b = g) []) := ⟨by rw [hg]; exact HS1.out⟩
  refine (dashNew_any w.heap.size w.heap.size (w.heap.size + 1) _ HS1.out (hgh ▸ HS2.out) (by omega) (Nat.le_refl _) (by omega)).mono ?_
  rintro e w1 ⟨d, bf, bb, by_, fb, col, rfl, h1, h2⟩
  simp only [← hgh] at h1
  simp only [← hg] at h1
  have HD1 := As.mk h1
  have HC1 := As.mk (HC2.out.trans h2 (fun _ _ e => e))
  clear h1 h2 HS1 HS2 HS1' HC2
  simp only [← hgh]
  simp only [← hg]
  clear hgh hg
  go_wp2_with fail
  go_loopw [24] (fun i wr => ∃ (k : Nat) (v : Value) (n1 : Nat) (FB FH : Nat → Prop) (col : Nat → Nat) (x : Int), k ≤ n ∧ i = .int .i64 k ∧ As (Dsc g d bf bb g gh by_ (.map none) (.pointer none) wr v n1 FB FH col (8192 * (xss.take k).flatten.length) (dashed (xss.take k).flatten) x) ∧ As (Chg NoB w wr)) (fun i _ => n - (intOf i).toNat)
  case atStart => exact ⟨0, _, _, _, _, _, _, Nat.zero_le _, rfl, HD1, HC1⟩
  case round =>
    obtain ⟨k, v, n1, FB, FH, col, x, hk, rfl, HD, HC⟩ := hrel
    by_cases hlt : k < n
    · have hltz : (k : Int) < (n : Int) := by omega
      have hkv : k < vs.length := by have := HN.out; omega
      have hkx : k < xss.length := by have := HR.out.2.1; omega
      have HF := As.mk (flat_take hkx)
      have hrow := HR.out.2.2 k hkv hkx
      have hle2 := flat_take_le xss (k + 1)
      obtain ⟨ad, hadd, hcell⟩ := (HR.out.keep HC.out).1.at_ k hkv
      subst hadd
      generalize vs[k].2.1 = pn at *
      generalize vs[k].1 = PA at *
      generalize vs[k].2.2 = pc at *
      generalize hys : xss[k] = ys at *
      have HBR := As.mk (hrow.2.keep HC.out)
      have HPN := As.mk hrow.1
      have HLL : As ((xss.take k).flatten.length + ys.length ≤ 3000) := ⟨by
        have := congrArg List.length HF.out
        have := HL.out
        rw [List.length_append] at *
        omega⟩
      have e1 : IntKind.i64.wrap ((k : Int) + 1) = ((k + 1 : Nat) : Int) := by rw [IntKind.wrap_i64]; omega
      have HDF := As.mk HD.out.fresh
      clear hrow hys hle2
      have HTT : As ((xss.take k).flatten ++ ys = (xss.take (k + 1)).flatten) := ⟨HF.out.symm⟩
      have HLE : As (8192 * (xss.take k).flatten.length + 8192 * pn = 8192 * (xss.take (k + 1)).flatten.length) := ⟨by rw [HF.out, List.length_append, ← HPN.out]; omega⟩
      obtain ⟨t, ht⟩ : ∃ t, t = (xss.take k).flatten := ⟨_, rfl⟩
      rw [← ht] at HDF HTT HLE HLL
      have HSZ : As (pn ≤ 3000) := ⟨by have := HLL.out; have := HPN.out; omega⟩
      clear ht HD HF
      go_upto_region 6 with fail
      go_region_law (first
      | (go_simp
         with_reducible refine (own_any PA pn pc ys _ HPN.out HBR.out.drew (by have := HSZ.out; have := HPN.out; omega)).mono ?_
         rintro e w9 ⟨v9, rfl, ho9, hc9⟩
         obtain ⟨A9, c9, hv9, hn9, hr9⟩ := ow_form (ow_of ho9)
         rw [← HPN.out] at hv9
         subst hv9
         have HR9 : As (Rf (fun b => b < w9.heap.size ∧ recol col wr 0 b = 0) w9 A9 ys) := ⟨hr9, fun ad9 e9 hp => by
           obtain ⟨g9, eg, hg9, hl9⟩ := ow_block (ow_of ho9) hp
           rw [eg] at e9; injection e9 with e9; subst e9
           exact ⟨hl9, recol_new hg9⟩⟩
         have HD9 := As.mk (HDF.out.keep (((Chg.refl NoB wr).drew).trans hc9 (fun _ _ e => e)))
         have HC9 := As.mk ((HC.out.drew).trans hc9 (fun _ _ e => e))
         clear ho9 hc9 hr9)
      | (go_simp
         with_reducible refine (dashWrite_any g d bf bb g gh by_ n1 (8192 * t.length) pn c9 (.map none) (.pointer none) v x FB FH (recol col wr 0) A9 t ys w9 HD9.out HPN.out (by have := HLL.out; have := HPN.out; omega) (by have := HLL.out; have := HPN.out; omega) HR9.out).mono ?_
         rintro e w10 ⟨rfl, v10, n10, FB10, FH10, col10, x10, hq⟩
         have HQ := As.mk hq
         have HC10 := As.mk (HD9.out.beyond HC9.out (by have := HG.out; omega) hq)
         clear hq))
      all_goals
        go_wp2_with fail
        go_roundw
        case rel => exact ⟨k + 1, v10, n10, FB10, FH10, col10, x10, by omega, by go_num, ⟨by rw [← HLE.out, ← HTT.out]; exact HQ.out.ds⟩, HC10⟩
        case measure => simp [intOf]; omega
    · have hz : ¬ ((k : Int) < (n : Int)) := by omega
      have hkn : k = n := by omega
      have HTK : As (xss.take k = xss) := ⟨List.take_of_length_le (by have := HN.out; have := HR.out.2.1; omega)⟩
      rw [HTK.out] at HD
      clear hkn
      go_wp2_with fail
      refine (bufFlush_any g bf bb g n1 _ FB _ HD.out.bw HD.out.hb (by have := HL.out; omega)).mono ?_
      rintro e w3 ⟨rfl, FB3, hb3, hc3, hg3⟩
      have HD3 := As.mk (HD.out.toB hb3 hc3 hg3)
      have HC3 := As.mk (HC.out.trans hc3 (fun i hi e => by have h := HD.out.lo i (by rw [HD.out.cb i e]; decide); have := HG.out; omega))
      clear hb3 hc3 hg3
      obtain ⟨Fs, os, zs, hs, _⟩ := HD3.out.bw.ex
      obtain ⟨v1, hv1, ho1, _⟩ := hs.ex
      obtain ⟨v2, hv2, ho2, _⟩ := HD3.out.snk.ex
      obtain ⟨A1, c1, e1, _, _⟩ := ow_form (ow_of ho1)
      obtain ⟨A2, c2, e2, _, _⟩ := ow_form (ow_of ho2)
      generalize os.length = m1 at e1
      generalize (dashed xss.flatten).out.length = m2 at e2
      subst e1
      subst e2
      have cg := hv1.cell 0
      have ch := hv2.cell 0
      simp only [List.getElem?_cons_zero] at cg ch
      have HO2 := As.mk ho2
      clear hs hv1 ho1 hv2 ho2
      go_wp2_with fail
      go_quiet (fail)
      go_wp2_with fail
      go_ret2
      exact ⟨.slice A1 m1 c1, .slice A2 m2 c2, rfl, by have h := own_keep HO2.out ((Chg.refl NoB w3).drewN nq); rw [HG.out] at h; exact h, HC3.out.drewN nq⟩
end Go.Proofs.YtphnjfbaioblbaaDoor
