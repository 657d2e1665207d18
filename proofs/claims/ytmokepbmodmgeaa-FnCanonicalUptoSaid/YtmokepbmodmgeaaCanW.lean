/- The contract of openpgp.writeCanonical over a recorder. -/
import Derived.Test.YtmokepbmodmgeaaCanM
import Derived.Deep.RegionLaw
import Derived.Deep.DeepCutAuto
set_option linter.unusedVariables false
set_option linter.unusedSimpArgs false
namespace Go.Proofs.Ytmokepbmodmgeaa
open Go.RowKit V
/-- What a write to a canonical text hash leaves. -/
def WroteC (w : World) (base g q h : Nat) (xs : List Int) (s n : Nat) (e : Ending) (w' : World) : Prop :=
  e = .returned (.tuple #[.int .i64 n, .nilIface]) ∧ Rec w' base g q h xs ∧ Blk w' h 68 [.iface 52 (.pointer (some ⟨g, 0, none⟩)), .int .i64 s] ∧ Chg (fun b => base ≤ b ∧ b ≠ q) w w'
theorem drop_take_step {xs : List Int} {b k : Nat} (hb : b ≤ k) (h : k < xs.length) : (xs.take (k + 1)).drop b = (xs.take k).drop b ++ [rd xs (k : Int)] := by
  rw [take_rd h, List.drop_append_of_le_length (by rw [List.length_take]; omega)]
theorem drop_take_all {xs : List Int} {b k : Nat} (h : k ≤ xs.length) : (xs.drop b).take (k - b) = (xs.take k).drop b := by
  rw [List.drop_take]
set_option maxRecDepth 100000 in
set_option maxHeartbeats 1000000 in
theorem writeCanonical_any (base g q h n c s : Nat) (A : Option Addr) (ys xs : List Int) (w : World) (hn : n = ys.length) (hnc : n ≤ c) (hr : Rec w base g q h xs)
    (hb : Blk w h 68 [.iface 52 (.pointer (some ⟨g, 0, none⟩)), .int .i64 s]) (hs1 : s ≤ 1) (hg : base ≤ g ∧ g ≠ q ∧ g ≠ h) (hh : base ≤ h ∧ h ≠ q) (hq : q < w.heap.size) (ry : Rf (fun b => b = q) w A ys) (hl : xs.length + 2 * ys.length ≤ 1048576) :
    Calls Try.prog 58 #[.iface 52 (.pointer (some ⟨g, 0, none⟩)), .slice A n c, .pointer (some ⟨h, 1, none⟩)] w (WroteC w base g q h (xs ++ canS s ys) (stS s ys) n) := by
  have HR := As.mk hr
  have HB := As.mk hb
  have HY := As.mk ry
  have HN := As.mk hn
  have HX := As.mk hl
  have hnm : n ≤ 1048576 := by omega
  have n1 := na_rw
  have m1 := me_rw
  have hbw : base ≤ w.heap.size := by have := hb.lt; omega
  have hhw : h < w.heap.size := hb.lt
  clear hr hb ry hn hl
  go_enter Try.func58, Try.ntmps58
  go_wp2_with fail
  go_loopw [8, 19] (fun sv iv wr => ∃ (i b : Nat), sv = .int .i64 b ∧ iv = .int .i64 i ∧ b ≤ i ∧ i ≤ n ∧ As (∃ D, Rec wr base g q h D ∧ D ++ (ys.take i).drop b = xs ++ canS s (ys.take i)) ∧ As (Blk wr h 68 [.iface 52 (.pointer (some ⟨g, 0, none⟩)), .int .i64 (stS s (ys.take i))]) ∧ As (Chg (fun b => base ≤ b ∧ b ≠ q) w wr)) (fun _ iv _ => n - (intOf iv).toNat)
  case atStart => exact ⟨0, 0, rfl, rfl, Nat.le_refl _, Nat.zero_le _, ⟨⟨xs, HR.out, by simp [canS]⟩⟩, ⟨HB.out⟩, ⟨Chg.refl _ _⟩⟩
  case round =>
    obtain ⟨i, b, rfl, rfl, hbi, hin, HD, HBi, HC⟩ := hrel
    have hwr : w.heap.size ≤ wr.heap.size := HC.out.size
    by_cases hlt : i < n
    · have hiy : i < ys.length := by have := HN.out; omega
      have HST := As.mk (stS_step (s := s) hiy)
      have HCS := As.mk (canS_step (s := s) hiy)
      have HDT := As.mk (drop_take_step (xs := ys) hbi hiy)
      have HYr := As.mk (HY.out.chg HC.out (fun b _ hb e => e.2 hb))
      have hs01 := stS_le (ys.take i) s hs1
      have hfz := HBi.out.frozen 1
      have hcl := HBi.out.cell 1
      simp only [List.getElem?_cons_zero, List.getElem?_cons_succ] at hcl
      have HLD : As (∀ D, D ++ (ys.take i).drop b = xs ++ canS s (ys.take i) → D.length + (i - b) ≤ 1048576) := ⟨fun D hD => by
        have h1 := congrArg List.length hD
        have h2 := canS_length (ys.take i) s
        have h3 := HX.out
        rw [List.length_append, List.length_append, List.length_drop, List.length_take, Nat.min_eq_left (by omega)] at h1
        rw [List.length_take, Nat.min_eq_left (by omega)] at h2
        omega⟩
      obtain ⟨A2, hcut, _, hA2⟩ := cut_mid (P := Try.prog) 22 5 Try.underlying22 size8 A n c (b : Int) (i : Int) .i64 .i64 (i - b) (c - b) (by omega) (by omega) (by omega) (by omega)
      have HA2 : As (∀ w', Chg NoB wr w' → Rb w' A2 ((ys.take i).drop b)) := ⟨fun w' hc => by
        have h1 := hA2 w' .u8 ys (by omega) (by have := HN.out; omega) (HYr.out.keep hc).1
        rw [Int.toNat_natCast, drop_take_all (by omega)] at h1
        exact h1⟩
      clear hA2
      obtain ⟨ad, rfl, cp⟩ := HYr.out.1.at_ (i : Int) (by omega) (by omega)
      rw [Int.toNat_natCast] at cp
      generalize hst : stS s (ys.take i) = st at *
      generalize hc0 : rd ys (i : Int) = ch at *
      clear hst hc0
      have hst01 : st = 0 ∨ st = 1 := by omega
      rcases hst01 with rfl | rfl
      · have hcl0 : wr.cell? ⟨h, 1, none⟩ = some (.int .i64 0) := hcl
        clear hcl
        by_cases h13 : ch = 13
        · subst h13
          have HN1 : As (stc 0 13 = 1 ∧ outc 0 13 = [13]) := ⟨by simp [stc, outc]⟩
          go_wp2_with fail
          go_roundw
          case rel =>
            refine ⟨i + 1, b, rfl, by go_num, by omega, by omega, ⟨?_⟩, ⟨?_⟩, ⟨?_⟩⟩
            · obtain ⟨D, ⟨v, hv1, hv2, hv3⟩, hD⟩ := HD.out
              refine ⟨D, ⟨v, ?_, ?_, hv3⟩, ?_⟩
              · exact hv1.chg ((Chg.refl (fun b => b = h) wr).setCell (p := ⟨h, 1, none⟩) _ (fun _ => rfl)) (fun e => hg.2.2 e)
              · exact own_chg hv2 ((Chg.refl (fun b => b = h) wr).setCell (p := ⟨h, 1, none⟩) _ (fun _ => rfl)) (fun b hb e => (hv3 b hb).2.2 e)
              · rw [HDT.out, HCS.out, HN1.out.2, ← List.append_assoc, hD, List.append_assoc]
            · rw [HST.out, HN1.out.1]
              exact HBi.out.set_ 1 _
            · exact HC.out.setCell (p := ⟨h, 1, none⟩) _ (fun _ => hh)
          case measure => simp [intOf]; omega
        · by_cases h10 : ch = 10
          · subst h10
            have HN1 : As (stc 0 10 = 0 ∧ outc 0 10 = [13, 10]) := ⟨by simp [stc, outc]⟩
            obtain ⟨D, hRD, hD⟩ := HD.out
            have HLd := As.mk (HLD.out D hD)
            have HRD := As.mk hRD
            have HDD := As.mk hD
            have HLi : As (i - b = ((ys.take i).drop b).length) := ⟨by rw [List.length_drop, List.length_take, Nat.min_eq_left (by omega)]⟩
            have HWR : As (∀ w', Chg NoB wr w' → Rec w' base g q h D → Calls Try.prog 52 #[.pointer (some ⟨g, 0, none⟩), .slice A2 (i - b) (c - b)] w' (WroteR w' base g q h (D ++ (ys.take i).drop b) (i - b))) := ⟨fun w' hc hrw => recWrite_any base g q h (i - b) (c - b) A2 D ((ys.take i).drop b) w' HLi.out hrw hg ⟨by have := hc.size; omega, by have := hc.size; omega⟩ (by have := hc.size; omega) (HA2.out _ hc) (by rw [← HLi.out]; have := HLd.out; omega)⟩
            clear hRD hD
            go_upto_region 10 with fail
            go_cut [11, 12] (fun s11 s12 wx => s12 = .nilIface ∧ As (Rec wx base g q h (xs ++ canS s (ys.take i))) ∧ As (Chg (fun b => base ≤ b ∧ b ≠ q ∧ b ≠ h) wr wx))
            case first =>
              go_region_law (first
                | (go_simp
                   refine (HWR.out _ ?c1 ?c2).mono ?_
                   case c1 => repeat (first | exact Chg.refl _ _ | (with_reducible apply Chg.drew) | (with_reducible apply Chg.alloc))
                   case c2 => repeat (first | (with_reducible exact HRD.out) | (with_reducible apply Rec.drew) | (with_reducible apply Rec.alloc))
                   rintro e5 w5 ⟨rfl, hr5, hc5⟩
                   rw [HDD.out] at hr5
                   have HR5 := As.mk hr5
                   have HC5 : As (Chg (fun b => base ≤ b ∧ b ≠ q ∧ b ≠ h) wr w5) := ⟨Chg.trans (Chg.mono (S := NoB) (by repeat (first | exact Chg.refl _ _ | (with_reducible apply Chg.drew) | (with_reducible apply Chg.alloc))) (fun _ _ e => e.elim)) hc5 (fun _ _ e => e)⟩
                   clear hr5 hc5))
              all_goals
                go_wp2_with fail
                go_meet
                exact ⟨rfl, HR5, HC5⟩
            case rest =>
              obtain ⟨rfl, HR5, HC5⟩ := hcut
              have HWN : As (Calls Try.prog 52 #[.pointer (some ⟨g, 0, none⟩), .slice (some ⟨wc.heap.size, 0, none⟩) 2 2] (wc.alloc (.cells #[.int .u8 13, .int .u8 10] 5)) (WroteR (wc.alloc (.cells #[.int .u8 13, .int .u8 10] 5)) base g q h ((xs ++ canS s (ys.take i)) ++ [13, 10]) 2)) := ⟨by
                have hal : Chg NoB wc (wc.alloc (.cells #[.int .u8 13, .int .u8 10] 5)) := (Chg.refl NoB wc).alloc _
                have hz := hal.size
                have hz2 := HC5.out.size
                refine recWrite_any base g q h 2 2 (some ⟨wc.heap.size, 0, none⟩) (xs ++ canS s (ys.take i)) [13, 10] _ rfl (HR5.out.alloc _) hg ⟨by omega, by omega⟩ (by omega) ?_ ?_
                · exact own_reads (own_lit wc 0 5 .u8 [13, 10] (Nat.zero_le _) (by simp [maxLen]))
                · have h2 := canS_length (ys.take i) s
                  have h3 := HX.out
                  rw [List.length_take, Nat.min_eq_left (by omega)] at h2
                  rw [List.length_append]
                  simp only [List.length_cons, List.length_nil]
                  omega⟩
              go_wp2_with fail
              refine HWN.out.mono ?_
              rintro e w6 ⟨rfl, hr6, hc6⟩
              have HR6 := As.mk hr6
              have HC6 : As (Chg (fun b => base ≤ b ∧ b ≠ q ∧ b ≠ h) wr w6) := ⟨(HC5.out.alloc _).trans hc6 (fun _ _ e => e)⟩
              clear hr6 hc6
              go_wp2_with fail
              go_roundw
              case rel =>
                refine ⟨i + 1, i + 1, by go_num, by go_num, Nat.le_refl _, by omega, ⟨⟨_, HR6.out, ?_⟩⟩, ⟨?_⟩, ⟨HC.out.trans HC6.out (fun b _ e => ⟨e.1, e.2.1⟩)⟩⟩
                · rw [HCS.out, HN1.out.2, List.drop_of_length_le (by rw [List.length_take]; omega), List.append_nil, List.append_assoc]
                · rw [HST.out, HN1.out.1]
                  exact HBi.out.chg HC6.out (fun e => e.2.2 rfl)
              case measure => simp [intOf]; omega
          · have HN1 : As (stc 0 ch = 0 ∧ outc 0 ch = [ch]) := ⟨by simp [stc, outc, h13, h10]⟩
            have e13 : (ch == 13) = false := by simp [h13]
            have e10 : (ch == 10) = false := by simp [h10]
            go_wp2_with fail
            go_roundw
            case rel =>
              refine ⟨i + 1, b, rfl, by go_num, by omega, by omega, ⟨?_⟩, ⟨?_⟩, HC⟩
              · obtain ⟨D, hRD, hD⟩ := HD.out
                exact ⟨D, hRD, by rw [HDT.out, HCS.out, HN1.out.2, ← List.append_assoc, hD, List.append_assoc]⟩
              · rw [HST.out, HN1.out.1]
                exact HBi.out
            case measure => simp [intOf]; omega
      · have hcl0 : wr.cell? ⟨h, 1, none⟩ = some (.int .i64 1) := hcl
        clear hcl
        have HN1 : As (stc 1 ch = 0 ∧ outc 1 ch = [ch]) := ⟨by simp [stc, outc]⟩
        go_wp2_with fail
        go_roundw
        case rel =>
          refine ⟨i + 1, b, rfl, by go_num, by omega, by omega, ⟨?_⟩, ⟨?_⟩, ⟨?_⟩⟩
          · obtain ⟨D, ⟨v, hv1, hv2, hv3⟩, hD⟩ := HD.out
            refine ⟨D, ⟨v, ?_, ?_, hv3⟩, ?_⟩
            · exact hv1.chg ((Chg.refl (fun b => b = h) wr).setCell (p := ⟨h, 1, none⟩) _ (fun _ => rfl)) (fun e => hg.2.2 e)
            · exact own_chg hv2 ((Chg.refl (fun b => b = h) wr).setCell (p := ⟨h, 1, none⟩) _ (fun _ => rfl)) (fun b hb e => (hv3 b hb).2.2 e)
            · rw [HDT.out, HCS.out, HN1.out.2, ← List.append_assoc, hD, List.append_assoc]
          · rw [HST.out, HN1.out.1]
            exact HBi.out.set_ 1 _
          · exact HC.out.setCell (p := ⟨h, 1, none⟩) _ (fun _ => hh)
        case measure => simp [intOf]; omega
    · obtain rfl : i = n := by omega
      have HTK : As (ys.take i = ys) := ⟨List.take_of_length_le (by have := HN.out; omega)⟩
      rw [HTK.out] at HD HBi
      obtain ⟨D, hRD, hD⟩ := HD.out
      have HYr := As.mk (HY.out.chg HC.out (fun b _ hb e => e.2 hb))
      obtain ⟨A2, hcut, _, hA2⟩ := cut_from (P := Try.prog) 22 5 Try.underlying22 size8 A i c (b : Int) .i64 (i - b) (c - b) (by omega) (by omega) (by omega) (by omega)
      have HA2 : As (∀ w', Chg NoB wr w' → Rb w' A2 (ys.drop b)) := ⟨fun w' hc => by
        have h1 := hA2 w' .u8 ys HN.out.symm (HYr.out.keep hc).1
        rw [Int.toNat_natCast] at h1
        exact h1⟩
      have HLi : As (i - b = (ys.drop b).length) := ⟨by rw [List.length_drop, ← HN.out]⟩
      have HLd : As (D.length + (ys.drop b).length ≤ 1048576) := ⟨by
        have h1 := congrArg List.length hD
        have h2 := canS_length ys s
        have h3 := HX.out
        rw [List.length_append, List.length_append] at h1
        omega⟩
      have HRD := As.mk hRD
      have HDD := As.mk hD
      have HWR : As (∀ w', Chg NoB wr w' → Rec w' base g q h D → Calls Try.prog 52 #[.pointer (some ⟨g, 0, none⟩), .slice A2 (i - b) (c - b)] w' (WroteR w' base g q h (D ++ ys.drop b) (i - b))) := ⟨fun w' hc hrw => recWrite_any base g q h (i - b) (c - b) A2 D (ys.drop b) w' HLi.out hrw hg ⟨by have := hc.size; omega, by have := hc.size; omega⟩ (by have := hc.size; omega) (HA2.out _ hc) (by have := HLd.out; omega)⟩
      clear hRD hD hA2
      go_upto_region 20 with fail
      go_cut [15, 16] (fun s15 s16 wx => s16 = .nilIface ∧ As (Rec wx base g q h (xs ++ canS s ys)) ∧ As (Chg (fun b => base ≤ b ∧ b ≠ q ∧ b ≠ h) wr wx))
      case first =>
        go_region_law (first
          | (go_simp
             refine (HWR.out _ ?c1 ?c2).mono ?_
             case c1 => repeat (first | exact Chg.refl _ _ | (with_reducible apply Chg.drew) | (with_reducible apply Chg.alloc))
             case c2 => repeat (first | (with_reducible exact HRD.out) | (with_reducible apply Rec.drew) | (with_reducible apply Rec.alloc))
             rintro e5 w5 ⟨rfl, hr5, hc5⟩
             rw [HDD.out] at hr5
             have HR5 := As.mk hr5
             have HC5 : As (Chg (fun b => base ≤ b ∧ b ≠ q ∧ b ≠ h) wr w5) := ⟨Chg.trans (Chg.mono (S := NoB) (by repeat (first | exact Chg.refl _ _ | (with_reducible apply Chg.drew) | (with_reducible apply Chg.alloc))) (fun _ _ e => e.elim)) hc5 (fun _ _ e => e)⟩
             clear hr5 hc5))
        all_goals
          go_wp2_with fail
          go_meet
          exact ⟨rfl, HR5, HC5⟩
      case rest =>
        obtain ⟨rfl, HR5, HC5⟩ := hcut
        go_wp2_with fail
        go_ret2
        exact ⟨rfl, HR5.out, HBi.out.chg HC5.out (fun e => e.2.2 rfl), HC.out.trans HC5.out (fun b _ e => ⟨e.1, e.2.1⟩)⟩
end Go.Proofs.Ytmokepbmodmgeaa
