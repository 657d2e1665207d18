/- The contract of impl.CanonicalText: the pieces' text, its line ends turned to 13 10. -/
import Derived.Test.YtmokepbmodmgeaaCanH
set_option linter.unusedVariables false
set_option linter.unusedSimpArgs false
namespace Go.Proofs.Ytmokepbmodmgeaa
open Go.RowKit V
/-- A slice of slices of bytes. -/
def Rss (w : World) (A : Option Addr) (vs : List (Option Addr × Nat × Nat)) (xss : List (List Int)) : Prop :=
  Rs w A vs ∧ vs.length = xss.length ∧ ∀ j (h : j < vs.length) (h' : j < xss.length), vs[j].2.1 = xss[j].length ∧ Rb w vs[j].1 xss[j]
theorem Rss.keep {w w' : World} {A : Option Addr} {vs : List (Option Addr × Nat × Nat)} {xss : List (List Int)} (h : Rss w A vs xss) (hc : Chg NoB w w') : Rss w' A vs xss :=
  ⟨h.1.chg hc (fun _ _ _ e => e), h.2.1, fun j h1 h2 => ⟨(h.2.2 j h1 h2).1, (h.2.2 j h1 h2).2.keep hc⟩⟩
theorem flatten_take {xss : List (List Int)} {k : Nat} (h : k < xss.length) : (xss.take (k + 1)).flatten = (xss.take k).flatten ++ xss[k] := by
  rw [List.take_add_one, List.getElem?_eq_getElem h, List.flatten_append]
  simp only [Option.toList_some, List.flatten_cons, List.flatten_nil, List.append_nil]
theorem flatten_take_le (xss : List (List Int)) (k : Nat) : (xss.take k).flatten.length ≤ xss.flatten.length := by
  have h : xss.flatten = (xss.take k).flatten ++ (xss.drop k).flatten := by rw [← List.flatten_append, List.take_append_drop]
  rw [h, List.length_append]
  omega
theorem Rec.to {w : World} {base g h q : Nat} {xs : List Int} (hr : Rec w base g h h xs) (hq : ∀ b, base ≤ b → b < w.heap.size → b ≠ q) : Rec w base g q h xs := by
  obtain ⟨v, h1, h2, h3⟩ := hr
  exact ⟨v, h1, h2, fun b hb => ⟨(h3 b hb).1, hq b (own_block_lt h2 b hb).1 (own_block_lt h2 b hb).2, (h3 b hb).2.2⟩⟩
theorem Rec.weak {w : World} {base g h q : Nat} {xs : List Int} (hr : Rec w base g q h xs) : Rec w base g h h xs := by
  obtain ⟨v, h1, h2, h3⟩ := hr
  exact ⟨v, h1, h2, fun b hb => ⟨(h3 b hb).1, (h3 b hb).2.2, (h3 b hb).2.2⟩⟩
theorem piece_q {w0 w5 : World} {base n c a0 : Nat} {A5 : Option Addr} {xs : List Int} (ho : Own w5 w0.heap.size 5 .u8 (.slice A5 n c) xs) (h0 : a0 < base) (hb : base ≤ w5.heap.size) :
    ∃ q, Rf (fun b => b = q) w5 A5 xs ∧ (q < base ∨ w0.heap.size ≤ q) ∧ q < w5.heap.size := by
  by_cases hp : 0 < xs.length
  · obtain ⟨g', c', e, _, h1, h2⟩ := own_form_pos ho hp
    injection e with e1 e2 e3
    subst e1
    exact ⟨g', ⟨own_reads ho, fun ad e _ => by injection e with e; subst e; rfl⟩, .inr h1, h2⟩
  · exact ⟨a0, ⟨own_reads ho, fun ad e hh => absurd hh hp⟩, .inl h0, by omega⟩
set_option maxRecDepth 100000 in
set_option maxHeartbeats 1000000 in
theorem canonicalText_any (A : Option Addr) (n c : Nat) (vs : List (Option Addr × Nat × Nat)) (xss : List (List Int)) (w : World) (hn : n = vs.length) (hr : Rss w A vs xss) (hl : xss.flatten.length ≤ 4096) :
    Calls Try.prog 18 #[.slice A n c] w (Gives NoB w (canS 0 xss.flatten)) := by
  have HR := As.mk hr
  have HN := As.mk hn
  have HL := As.mk hl
  have hm : n ≤ 9223372036854775806 := by have := hr.1.1; omega
  have n1 := na_cw
  have m1 := me_cw
  have n2 := na_cs
  have m2 := me_cs
  clear hr hn hl
  go_enter Try.func18, Try.ntmps18
  go_wp2_with fail
  have B1 := As.mk (Blk.new w 56 [.slice none 0 0])
  have C1 := As.mk ((Chg.refl NoB w).alloc (.cells #[.slice none 0 0] 56))
  refine (newCt_any w.heap.size _).mono ?_
  rintro e w1 ⟨h, rfl, hh, hb1, hc1⟩
  have hh1 : w.heap.size + 1 ≤ h := by
    have e : (w.alloc (.cells #[.slice none 0 0] 56)).heap.size = w.heap.size + 1 := Array.size_push _
    omega
  have HB1 := As.mk hb1
  have C2 := As.mk (C1.out.trans hc1 (fun _ _ e => e))
  have HR1 : As (Rec w1 w.heap.size w.heap.size h h []) := ⟨⟨_, B1.out.chg hc1 (fun e => e), own_nil _ _ _ _, fun b hb => by cases hb⟩⟩
  clear hb1 hc1
  go_wp2_with fail
  go_loopw [14] (fun iv wr => ∃ k : Nat, k ≤ n ∧ iv = .int .i64 k ∧ As (Rec wr w.heap.size w.heap.size h h (canS 0 (xss.take k).flatten)) ∧ As (Blk wr h 68 [.iface 52 (.pointer (some ⟨w.heap.size, 0, none⟩)), .int .i64 (stS 0 (xss.take k).flatten)]) ∧ As (Chg NoB w wr)) (fun iv _ => n - (intOf iv).toNat)
  case atStart => exact ⟨0, Nat.zero_le _, rfl, ⟨by simpa [canS] using HR1.out⟩, ⟨by simpa [stS] using HB1.out⟩, C2⟩
  case round =>
    obtain ⟨k, hk, rfl, HK, HBK, HC⟩ := hrel
    by_cases hlt : k < n
    · have hkv : k < vs.length := by have := HN.out; omega
      have hkx : k < xss.length := by have := HR.out.2.1; omega
      have HRr := As.mk (HR.out.keep HC.out)
      have HF := As.mk (flatten_take hkx)
      have hrow := HRr.out.2.2 k hkv hkx
      have hle1 := flatten_take_le xss k
      have hle2 := flatten_take_le xss (k + 1)
      obtain ⟨ad, hadd, hb0, hcell⟩ := HR.out.1.2 (by omega)
      subst hadd
      have hck : wr.cell? (ad.add k) = some (.slice vs[k].1 vs[k].2.1 vs[k].2.2) := (HC.out.cell (p := ad.add k) (by rw [add_block]; exact hb0) (fun e => e)).trans (hcell k hkv)
      generalize vs[k].2.1 = pn at *
      generalize vs[k].1 = PA at *
      generalize vs[k].2.2 = pc at *
      generalize hys : xss[k] = ys at *
      have HBR := hrow.2
      have hpn := hrow.1
      have hcl := canS_length (xss.take k).flatten 0
      have hst := stS_le (xss.take k).flatten 0 (by omega)
      have HSTP : As (canS 0 (xss.take (k + 1)).flatten = canS 0 (xss.take k).flatten ++ canS (stS 0 (xss.take k).flatten) ys ∧ stS 0 (xss.take (k + 1)).flatten = stS (stS 0 (xss.take k).flatten) ys) := ⟨by rw [HF.out, canS_append], by rw [HF.out, stS_append]⟩
      have hyl : ys.length ≤ 4096 := by
        have := congrArg List.length HF.out
        have := HL.out
        rw [List.length_append] at *
        omega
      have hcl2 : (canS 0 (xss.take k).flatten).length ≤ 8192 := by have := HL.out; omega
      have HDAT := As.mk (And.intro HBR (And.intro hpn (And.intro hst (And.intro hyl hcl2))))
      have HB0 : As (ad.block < w.heap.size) := ⟨hb0⟩
      have HHB := As.mk HBK.out.lt
      generalize hD : canS 0 (xss.take k).flatten = D at *
      generalize hS : stS 0 (xss.take k).flatten = st at *
      clear hrow hcell hys hle1 hle2 hcl hst hyl hcl2 HBR hpn hb0 hD hS
      go_wp2_with fail
      go_region_law (first
        | (go_simp
           refine (own_any PA pn pc ys _ HDAT.out.2.1 (HDAT.out.1.keep ?c1) (by have := HDAT.out; omega)).mono ?_
           case c1 => repeat (first | exact Chg.refl _ _ | (with_reducible apply Chg.drew) | (with_reducible apply Chg.alloc))
           rintro e w5 ⟨v5, rfl, ho5, hc5⟩
           have hc5' : Chg NoB wr w5 := Chg.trans (by repeat (first | exact Chg.refl _ _ | (with_reducible apply Chg.drew) | (with_reducible apply Chg.alloc))) hc5 (fun _ _ e => e)
           obtain ⟨A5, c5, hv5, hl5, _⟩ := ow_form (ow_of ho5)
           rw [← HDAT.out.2.1] at hv5 hl5
           subst hv5
           obtain ⟨q, hq1, hq2, hq3⟩ := piece_q (a0 := ad.block) (base := w.heap.size) ho5 HB0.out (Nat.le_trans HC.out.size hc5'.size)
           have HW : As (∀ w', Chg NoB w5 w' → Calls Try.prog 57 #[.pointer (some ⟨h, 0, none⟩), .slice A5 pn c5] w' (WroteC w' w.heap.size w.heap.size q h (D ++ canS st ys) (stS st ys) pn)) := ⟨fun w' hc => by
             have hq2' : q < w.heap.size ∨ wr.heap.size ≤ q := hq2
             have hgw : w.heap.size < wr.heap.size := by have := HK.out.choose_spec.1.lt; exact this
             have hhw := HHB.out
             exact ctWrite_any w.heap.size w.heap.size q h pn c5 st A5 ys D w' HDAT.out.2.1 hl5 ((Rec.to HK.out (fun b h1 h2 => by omega)).keep (hc5'.trans hc (fun _ _ e => e))) (HBK.out.chg (hc5'.trans hc (fun _ _ e => e)) (fun e => e)) HDAT.out.2.2.1 ⟨Nat.le_refl _, by omega, by omega⟩ ⟨by omega, by omega⟩ (Nat.lt_of_lt_of_le hq3 hc.size) (hq1.keep hc) (by have := HDAT.out; omega)⟩
           have HC5 := As.mk hc5'
           clear ho5 hc5 hc5' hq1 hq2 hq3 hl5)
        | (go_simp
           refine (HW.out _ ?c1).mono ?_
           case c1 => repeat (first | exact Chg.refl _ _ | (with_reducible apply Chg.drew) | (with_reducible apply Chg.alloc))
           rintro e w6 ⟨rfl, hr6, hb6, hc6⟩
           have H6 := As.mk (And.intro hr6.weak hb6)
           have HC6 : As (Chg NoB w w6) := ⟨(HC.out.trans (HC5.out.trans (by repeat (first | exact Chg.refl _ _ | (with_reducible apply Chg.drew) | (with_reducible apply Chg.alloc))) (fun _ _ e => e)) (fun _ _ e => e)).trans hc6 (fun b hb e => by have := e.1; omega)⟩
           clear hr6 hb6 hc6))
      all_goals
        go_wp2_with fail
        go_roundw
        case rel => exact ⟨k + 1, by omega, by go_num, ⟨by rw [HSTP.out.1]; exact H6.out.1⟩, ⟨by rw [HSTP.out.2]; exact H6.out.2⟩, HC6⟩
        case measure => simp [intOf]; omega
    · obtain rfl : k = n := by omega
      have HTK : As (xss.take k = xss) := ⟨List.take_of_length_le (by have := HN.out; have := HR.out.2.1; omega)⟩
      have HS := As.mk (ctSum_any w.heap.size w.heap.size h h _ _ wr HK.out HBK.out (by have h1 := canS_length (xss.take k).flatten 0; have h2 := flatten_take_le xss k; have := HL.out; omega))
      go_wp2_with fail
      refine HS.out.mono ?_
      rintro e w6 ⟨v6, rfl, ho6, hc6⟩
      have HO6 := As.mk (own_lower ho6 HC.out.size)
      have HC6 := As.mk (HC.out.trans hc6 (fun _ _ e => e))
      clear ho6 hc6
      go_wp2_with fail
      go_ret
      refine ⟨_, rfl, ?_, HC6.out⟩
      have h1 := HO6.out
      rw [HTK.out] at h1
      exact h1
end Go.Proofs.Ytmokepbmodmgeaa
