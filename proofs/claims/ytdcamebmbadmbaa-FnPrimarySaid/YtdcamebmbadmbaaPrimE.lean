/- impl.entity of a holder whose identities alone are given. -/
import Derived.Test.YtdcamebmbadmbaaPrimM
import Derived.Deep.RegionHeld3
import Derived.Deep.DeepCutAuto
set_option linter.unusedVariables false
set_option linter.unusedSimpArgs false
namespace Go.Proofs.Ytdcamebmbadmbaa
open Go.RowKit V
theorem SRow.of_blk {w : World} {g : Nat} {k t : Int} (h : Blk w g 41 (inCells k t)) : SRow w 0 (.slice (some ⟨g, 0, none⟩) 1 1) [(k, t)] :=
  ⟨rfl, .inr ⟨g, 1, (inCells k t).toArray, rfl, Nat.zero_le _, h, Nat.le_refl _, by decide, rfl, by simp; rfl⟩⟩
theorem blk_ne_map {w : World} {g b n : Nat} {t : TypeId} {cs : List Value} {D : DataW Unit} (h : Blk w g t cs) (ho : OwnM w b n D) : g ≠ b := by
  obtain ⟨es, clock, hb, _⟩ := ho
  intro e
  unfold Blk at h
  rw [e, hb] at h
  cases h
set_option maxRecDepth 100000 in
theorem step_mapUpdate_own {ops : Array Oper} {o : Oper} {a : Act} {K : Act → World → Prop} {Q : Exit → Act → World → Prop} {E : Prop} {w : World} (hgd : o.guard = none) (m x v : Operand) (hop : o.op = Op.mapUpdate 63 m x v)
    (b n : Nat) (D : DataW Unit) (hm : a.eval m = .map (some b)) (hown : OwnM w b n D) (hn : n < 1000000) (i : Idn) (hs : i.nm.size ≤ maxLen) (g : Nat) (hx : a.eval x = .string i.nm) (hv : a.eval v = .pointer (some ⟨g, 0, none⟩))
    (h : ∀ w', OwnM w' b (n + 1) (D.put (nmKey i) (.lit (.int .i64 g))) → Chg (fun c => c = b) w w' → K (a.put o.dst undef) w') :
    if Region.wanted o (yielded ops a.tmps) = true then Oper.wp Try.prog o a w K Q else E := by
  have hw : Region.wanted o (yielded ops a.tmps) = true := by simp [Region.wanted, hgd]
  rw [if_pos hw]
  obtain ⟨w', hrun, r1, r2⟩ := hown.update (Maps.string_keyed Try.underlying9) Try.underlying63 (by simp only [maxLen]; omega) (WideMaps.keyOf_string_mk Try.underlying9 hs) (show ptrElem (.pointer (some ⟨g, 0, none⟩)) = some (.lit (.int .i64 g), []) from rfl)
  unfold Oper.wp
  simp [execOp, hop, hm, hx, hv, hrun, Result.andThen]
  exact h w' r1 ((Chg.refl _ _).grown r2 (fun k _ e => by injection e with e; exact e.symm))
set_option maxRecDepth 100000 in
theorem upon_mapUpdate {o : Oper} {a : Act} {K : Act → World → Prop} {Q : Exit → Act → World → Prop} {w : World} (b n : Nat) (D : DataW Unit) (hown : OwnM w b n D) (hn : n < 1000000) (i : Idn) (hs : i.nm.size ≤ maxLen) (g : Nat) (hd : o.dst = none)
    (h : ∀ w', OwnM w' b (n + 1) (D.put (nmKey i) (.lit (.int .i64 g))) → Chg (fun c => c = b) w w' → K (a.put none undef) w') :
    Oper.upon Try.prog o a K Q ((Sem.run Try.prog (Instr.mapUpdate 63 (.map (some b)) (.string i.nm) (.pointer (some ⟨g, 0, none⟩))) w).andThen fun _ w' => .ok Next.skip w') := by
  obtain ⟨w', hrun, r1, r2⟩ := hown.update (Maps.string_keyed Try.underlying9) Try.underlying63 (by simp only [maxLen]; omega) (WideMaps.keyOf_string_mk Try.underlying9 hs) (show ptrElem (.pointer (some ⟨g, 0, none⟩)) = some (.lit (.int .i64 g), []) from rfl)
  rw [hrun]
  have := h w' r1 ((Chg.refl _ _).grown r2 (fun k _ e => by injection e with e; exact e.symm))
  simp only [Result.andThen]
  unfold Oper.upon
  simpa [hd] using this
/-- An entity that has been made, its identities. -/
def EntOf (w : World) (l : List Idn) (e : Ending) (w' : World) : Prop :=
  ∃ ge mb gl, e = .returned (.pointer (some ⟨ge, 0, none⟩)) ∧ gl.map Prod.snd = l ∧ EntAt w' ge mb l.length (mapD gl) ∧ (∀ q ∈ gl, IdAt w' q.1 q.2) ∧ Chg NoB w w'
theorem IdAt.chgM {w w' : World} {g b n : Nat} {i : Idn} {D : DataW Unit} (h : IdAt w g i) (ho : OwnM w b n D) (hc : Chg (fun c => c = b) w w') : IdAt w' g i := by
  obtain ⟨sg, pb, RA, rc, SA, sc, h1, h2, h3⟩ := h
  exact ⟨sg, pb, RA, rc, SA, sc, h1.chg hc (blk_ne_map h1 ho), h2.chg hc (blk_ne_map h2 ho), h3.chg hc (blk_ne_map h3 ho)⟩
theorem sizeIdn : (Try.prog.info? 43).map (·.size) = some 4 := by kernel_rfl
set_option maxRecDepth 100000 in
set_option maxHeartbeats 4000000 in
theorem entity_any (base : Nat) (A : Option Addr) (n c : Nat) (l : List Idn) (w : World) (hv : IRow w base (.slice A n c) l) (hln : n = l.length) (hl : n ≤ 20) (hok : ∀ i ∈ l, i.Ok ∧ i.nm.size ≤ 1000) :
    Calls Try.prog 7 #[.agg (hCells (.slice A n c)).toArray] w (EntOf w l) := by
  have hmm := @run_makeMap Try.prog
  have HV := As.mk hv
  have HLN := As.mk hln
  have HOK := As.mk hok
  have hnc : n ≤ c := by
    obtain ⟨A', c', e, h, _⟩ := hv.at_
    injection e with _ e2 e3
    omega
  clear hv hln hok
  go_enter Try.func7, Try.ntmps7
  go_upto_region 1 with fail
  have HB := As.mk (Blk.new w 31 (hCells (.slice A n c)))
  obtain ⟨b, hb⟩ : ∃ b, b = w.heap.size := ⟨_, rfl⟩
  simp only [← hb]
  rw [← hb] at HB
  refine wp_world (fun w' => Blk w' b 31 (hCells (.slice A n c)) ∧ Chg NoB w w') ?hs ?_
  case hs => exact ⟨HB.out, (Chg.refl _ _).alloc _⟩
  intro wc hw
  have HBW := As.mk hw.1
  have HC := As.mk hw.2
  clear hw HB hb
  go_cut [3] (fun v wx => ∃ ge mb, v = .pointer (some ⟨ge, 0, none⟩) ∧ As (w.heap.size ≤ mb) ∧ As (EntAt wx ge mb 0 (.map []) ∧ Blk wx b 31 (hCells (.slice A n c)) ∧ Chg NoB w wx))
  case first =>
    have HX : As (Chg NoB wc wc) := ⟨Chg.refl _ _⟩
    have HF1 : As True := ⟨trivial⟩
    have KP : As (∀ w', Chg NoB wc w' → w'.cell? ⟨b, 0, none⟩ = some (.int .i64 0) ∧ w'.cell? ⟨b, 1, none⟩ = some (.int .u64 0) ∧ w'.cell? ⟨b, 2, none⟩ = some (.int .u8 0) ∧ w'.cell? ⟨b, 3, none⟩ = some (.slice none 0 0) ∧ w'.cell? ⟨b, 4, none⟩ = some (.slice none 0 0) ∧ w'.cell? ⟨b, 5, none⟩ = some (.int .u64 0) ∧ w'.cell? ⟨b, 6, none⟩ = some (.int .i64 0) ∧ w'.cell? ⟨b, 7, none⟩ = some (.bool false) ∧ w'.cell? ⟨b, 10, none⟩ = some (.slice none 0 0) ∧ w'.cell? ⟨b, 11, none⟩ = some (.slice none 0 0) ∧ w'.cell? ⟨b, 12, none⟩ = some (.slice none 0 0)) := ⟨fun w' h => by
      have x := HBW.out.chg h (fun e => e)
      exact ⟨x.cell 0, x.cell 1, x.cell 2, x.cell 3, x.cell 4, x.cell 5, x.cell 6, x.cell 7, x.cell 10, x.cell 11, x.cell 12⟩⟩
    go_region_held3 (fun w' => w'.cell? ⟨b, 0, none⟩ = some (.int .i64 0) ∧ w'.cell? ⟨b, 1, none⟩ = some (.int .u64 0) ∧ w'.cell? ⟨b, 2, none⟩ = some (.int .u8 0) ∧ w'.cell? ⟨b, 3, none⟩ = some (.slice none 0 0) ∧ w'.cell? ⟨b, 4, none⟩ = some (.slice none 0 0) ∧ w'.cell? ⟨b, 5, none⟩ = some (.int .u64 0) ∧ w'.cell? ⟨b, 6, none⟩ = some (.int .i64 0) ∧ w'.cell? ⟨b, 7, none⟩ = some (.bool false) ∧ w'.cell? ⟨b, 10, none⟩ = some (.slice none 0 0) ∧ w'.cell? ⟨b, 11, none⟩ = some (.slice none 0 0) ∧ w'.cell? ⟨b, 12, none⟩ = some (.slice none 0 0)) (exact KP.out _ (by repeat (first | exact HX.out | (with_reducible apply Chg.drew) | (with_reducible apply Chg.alloc)))) (first
      | (go_simp
         with_reducible refine (bare_zero _).mono ?_
         rintro e4 wb ⟨g0, rfl, hc4⟩
         have HYb := As.mk hc4
         have HX4 : As (Chg NoB wc wb) := ⟨Chg.trans (by repeat (first | exact HX.out | (with_reducible apply Chg.drew) | (with_reducible apply Chg.alloc))) hc4 (fun _ _ e => e)⟩
         clear hc4 HX
         have HX := HX4
         clear HX4)
      | (go_simp
         with_reducible refine (first_noneC _ _ _).mono ?_
         rintro e4 wf ⟨rfl, hc4⟩
         have HYf := As.mk hc4
         have HX4 : As (Chg NoB wc wf) := ⟨Chg.trans (by repeat (first | exact HX.out | (with_reducible apply Chg.drew) | (with_reducible apply Chg.alloc))) hc4 (fun _ _ e => e)⟩
         clear hc4 HX
         have HX := HX4
         clear HX4)
      | (go_simp
         clear HF1
         with_reducible refine (many_nil _).mono ?_
         rintro e4 wm1 ⟨A1, c1, rfl, hc4⟩
         have HYm1 := As.mk hc4
         have HX4 : As (Chg NoB wc wm1) := ⟨Chg.trans (by repeat (first | exact HX.out | (with_reducible apply Chg.drew) | (with_reducible apply Chg.alloc))) hc4 (fun _ _ e => e)⟩
         clear hc4 HX
         have HX := HX4
         clear HX4)
      | (go_simp
         with_reducible refine (many_nil _).mono ?_
         rintro e4 wm2 ⟨A2, c2, rfl, hc4⟩
         have HYm2 := As.mk hc4
         have HX4 : As (Chg NoB wc wm2) := ⟨Chg.trans (by repeat (first | exact HX.out | (with_reducible apply Chg.drew) | (with_reducible apply Chg.alloc))) hc4 (fun _ _ e => e)⟩
         clear hc4 HX
         have HX := HX4
         clear HX4)
      )
    all_goals
      go_wp2_with fail
      go_meet
      refine ⟨_, _, rfl, ⟨?_⟩, ⟨entAt_new _ _ _ _ _ _ _ _ _ _ (by simp) ?_, HBW.out.chg (by repeat (first | exact HX.out | (with_reducible apply Chg.drew) | (with_reducible apply Chg.alloc))) (fun e => e), HC.out.trans (by repeat (first | exact HX.out | (with_reducible apply Chg.drew) | (with_reducible apply Chg.alloc))) (fun _ _ e => e)⟩⟩
      · have s1 := HC.out.size
        have s2 := HYb.out.size
        have s3 := HYm1.out.size
        have s4 := HYf.out.size
        have s5 := HYm2.out.size
        simp at s1 s2 s3 s4 s5 ⊢
        omega
      first
        | exact (ownM_made _).keep ((HYm1.out.trans HYf.out (fun _ _ e => e)).trans HYm2.out (fun _ _ e => e))
        | exact (ownM_made _).keep (HYf.out.trans HYm2.out (fun _ _ e => e))
        | exact (ownM_made _).keep HYm2.out
        | exact ownM_made _
        | exact (ownM_made _).keep (((HYb.out.trans HYm1.out (fun _ _ e => e)).trans HYf.out (fun _ _ e => e)).trans HYm2.out (fun _ _ e => e))
        | exact (ownM_made _).keep (((((Chg.refl NoB _).drew.trans HYb.out (fun _ _ e => e)).trans HYm1.out (fun _ _ e => e)).trans HYf.out (fun _ _ e => e)).trans HYm2.out (fun _ _ e => e))
  case rest =>
    obtain ⟨ge, mb, rfl, HMB, HE⟩ := hcut
    have HE0 := As.mk HE.out.1
    have HB0 := As.mk HE.out.2.1
    have HC0 := As.mk HE.out.2.2
    have i9 : wc.cell? ⟨b, 9, none⟩ = some (.slice A n c) := HE.out.2.1.cell 9
    clear HE
    have hgel : As (ge < wc.heap.size ∧ mb < wc.heap.size ∧ w.heap.size ≤ mb) := ⟨by
      obtain ⟨_, _, _, _, _, h1, h2⟩ := HE0.out
      exact ⟨h1.lt, h2.lt, HMB.out⟩⟩
    go_wp2_with fail
    go_loopw [5, 27] (fun _ i w' => ∃ (k : Nat) (gl : List (Nat × Idn)), i = .int .i64 k ∧ k ≤ n ∧ As (gl.map Prod.snd = l.take k) ∧ As (EntAt w' ge mb k (mapD gl)) ∧ As (∀ q ∈ gl, IdAt w' q.1 q.2) ∧ As (Chg (fun c => c = mb) wc w')) (fun _ i _ => n - (intOf i).toNat)
    case atStart => exact ⟨0, [], rfl, Nat.zero_le _, ⟨rfl⟩, HE0, ⟨fun q hq => by cases hq⟩, ⟨Chg.refl _ _⟩⟩
    case round =>
      obtain ⟨k, gl, rfl, hk, HGL, HEK, HID, HCK⟩ := hrel
      by_cases hlt : k < n
      · have hltz : (k : Int) < (n : Int) := by omega
        have HIT : As (l[k]? = some (l[k]'(by have := HLN.out; omega))) := ⟨List.getElem?_eq_getElem _⟩
        have HTK : As (l.take (k + 1) = l.take k ++ [l[k]'(by have := HLN.out; omega)]) := ⟨List.take_succ_eq_append_getElem _⟩
        have HP := As.mk (HOK.out _ (List.getElem_mem (by have := HLN.out; omega) : l[k]'(by have := HLN.out; omega) ∈ l))
        generalize l[k]'(by have := HLN.out; omega) = it at *
        have HCW : As (Chg NoB w wr) := ⟨HC0.out.trans HCK.out (fun i hi e => by have := hgel.out.2.2; omega)⟩
        obtain ⟨_, _, e1, _, _, hat⟩ := (HV.out.keep HCW.out).at_
        injection e1 with e1 e2 e3
        obtain ⟨g, b1, b2, eA, hglt, hrg, hsrc⟩ := hat k _ HIT.out
        rw [← e1] at eA
        subst eA
        have HRG := As.mk hrg
        have HSELF := As.mk hsrc.1
        obtain ⟨RA, rn, rl, hRS, hrn, hRR, hrl, hrt⟩ : ∃ RA rn rl, (if it.rv then Value.slice (some ⟨b2, 0, none⟩) 1 1 else .slice none 0 0) = .slice RA rn rn ∧ rn = (if it.rv then 1 else 0) ∧ SRow wr 0 (.slice RA rn rn) rl ∧ rl.length = rn ∧ (∀ p ∈ rl, 0 ≤ p.2 ∧ p.2 ≤ (4294967296 : Int)) := by
          cases hrv : it.rv with
          | true => exact ⟨some ⟨b2, 0, none⟩, 1, [(48, 5000)], by simp, by simp, SRow.of_blk (hsrc.2 hrv), rfl, fun p hp => by simp at hp; subst hp; decide⟩
          | false => exact ⟨none, 0, [], by simp, by simp, World.ownsRow_nil _ _ _ _, rfl, fun p hp => by cases hp⟩
        have HRN := As.mk hrn
        have HRR := As.mk hRR
        have HRL := As.mk (And.intro hrl hrt)
        have hrn1 : rn ≤ 1 := by rw [hrn]; split <;> omega
        have HIC : As (icells ((b1, b2), it) = [.string it.nm, .slice (some ⟨b1, 0, none⟩) 1 1, .slice RA rn rn, .slice none 0 0]) := ⟨by rw [← hRS]; rfl⟩
        rw [HIC.out] at HRG
        clear hat hrg e1 e2 e3 hsrc hRS hrn hRR hrl hrt
        obtain ⟨cs, hcs⟩ : ∃ cs : List Value, cs = [.string it.nm, .slice (some ⟨b1, 0, none⟩) 1 1, .slice RA rn rn, .slice none 0 0] := ⟨_, rfl⟩
        have HCS := As.mk hcs
        rw [← hcs] at HRG
        have h4 : cs.length = 4 := by rw [hcs]; rfl
        have h4a : cs.toArray.size = 4 := by rw [List.size_toArray, h4]
        have hone : ∀ u ∈ cs, u.oneCell' = true := by
          rw [hcs]; intro u hu
          simp only [List.mem_cons, List.mem_nil_iff, or_false] at hu
          rcases hu with rfl | rfl | rfl | rfl <;> rfl
        have HONE := As.mk hone
        clear hone hcs
        go_upto_region 5 with (first
          | ((with_reducible refine gate (N := 30) rfl ?_); refine wpList_load_mid rfl 43 _ rfl g (k * 4) ?k0 cs _ HRG.out Try.underlying43 rfl (by rw [h4]; exact sizeIdn) ?_; (case k0 => rfl))
          | refine wpList_store_row rfl 43 (.tmp 5) (.tmp 30) rfl wr.heap.size cs.toArray rfl rfl 43 #[.string ⟨#[]⟩, .slice none 0 0, .slice none 0 0, .slice none 0 0] (heap_alloc_new _ _) (by rw [h4a]; exact sizeIdn) (by rw [h4a]; rfl) (all_oneCell_toArray HONE.out) ?_)
        refine wp_world (fun w' => Blk w' wr.heap.size 43 cs ∧ Chg NoB wr w') ?hs ?_
        case hs => exact ⟨blk_row wr 43 [.string ⟨#[]⟩, .slice none 0 0, .slice none 0 0, .slice none 0 0] cs, chg_row wr 43 [.string ⟨#[]⟩, .slice none 0 0, .slice none 0 0, .slice none 0 0] cs⟩
        intro wd hw
        have HBD : As (Blk wd wr.heap.size 43 [.string it.nm, .slice (some ⟨b1, 0, none⟩) 1 1, .slice RA rn rn, .slice none 0 0]) := ⟨by have := hw.1; rwa [HCS.out] at this⟩
        have HCD := As.mk hw.2
        clear hw h4 h4a
        obtain ⟨b5, hb5⟩ : ∃ b5, b5 = wr.heap.size := ⟨_, rfl⟩
        simp only [← hb5]
        rw [← hb5] at HBD
        clear hb5
        have HED := HEK.out
        obtain ⟨PK, EA1, ec1, EA2, ec2, hbe, home⟩ := HED
        have HBE := As.mk (hbe.chg HCD.out (fun e => e))
        have HOM := As.mk (OwnM.keep home HCD.out)
        have HIDD : As (∀ q ∈ gl, IdAt wd q.1 q.2) := ⟨fun q hq => (HID.out q hq).keep HCD.out⟩
        have HSD := As.mk (HSELF.out.chg HCD.out (fun e => e))
        have HRD := As.mk (HRR.out.keep HCD.out)
        have HT := As.mk HP.out.1
        clear hbe home
        have HX : As (Chg NoB wd wd) := ⟨Chg.refl _ _⟩
        have KP : As (∀ w', Chg NoB wd w' → w'.cell? ⟨ge, 2, none⟩ = some (.map (some mb)) ∧ w'.cell? ⟨b5, 0, none⟩ = some (.string it.nm) ∧ w'.cell? ⟨b5, 1, none⟩ = some (.slice (some ⟨b1, 0, none⟩) 1 1) ∧ w'.cell? ⟨b5, 2, none⟩ = some (.slice RA rn rn) ∧ w'.cell? ⟨b5, 3, none⟩ = some (.slice none 0 0)) := ⟨fun w' h => by
          have x := HBE.out.chg h (fun e => e)
          have y := HBD.out.chg h (fun e => e)
          exact ⟨x.cell 2, y.cell 0, y.cell 1, y.cell 2, y.cell 3⟩⟩
        have KPM : As (∀ w', Chg (fun c => c = mb) wd w' → w'.cell? ⟨ge, 2, none⟩ = some (.map (some mb)) ∧ w'.cell? ⟨b5, 0, none⟩ = some (.string it.nm) ∧ w'.cell? ⟨b5, 1, none⟩ = some (.slice (some ⟨b1, 0, none⟩) 1 1) ∧ w'.cell? ⟨b5, 2, none⟩ = some (.slice RA rn rn) ∧ w'.cell? ⟨b5, 3, none⟩ = some (.slice none 0 0)) := ⟨fun w' h => by
          have x := HBE.out.chg h (blk_ne_map HBE.out HOM.out)
          have y := HBD.out.chg h (blk_ne_map HBD.out HOM.out)
          exact ⟨x.cell 2, y.cell 0, y.cell 1, y.cell 2, y.cell 3⟩⟩
        go_region_held3 (fun w' => w'.cell? ⟨ge, 2, none⟩ = some (.map (some mb)) ∧ w'.cell? ⟨b5, 0, none⟩ = some (.string it.nm) ∧ w'.cell? ⟨b5, 1, none⟩ = some (.slice (some ⟨b1, 0, none⟩) 1 1) ∧ w'.cell? ⟨b5, 2, none⟩ = some (.slice RA rn rn) ∧ w'.cell? ⟨b5, 3, none⟩ = some (.slice none 0 0)) (first | exact KPM.out _ HXM.out | exact KP.out _ (by repeat (first | exact HX.out | (with_reducible apply Chg.drew) | (with_reducible apply Chg.alloc)))) (first
          | (go_simp
             with_reducible refine (first_one b1 19 it.t it.p _ ?hb ?h0 ?h1).mono ?_
             case hb => exact HSD.out.chg (by repeat (first | exact HX.out | (with_reducible apply Chg.drew) | (with_reducible apply Chg.alloc))) (fun e => e)
             case h0 => (have := HT.out.t0; omega)
             case h1 => (have := HT.out.t1; omega)
             rintro e4 w4 ⟨gs, gp, rfl, _, _, hs4, hp4, hc4⟩
             have HSG := As.mk (And.intro hs4 hp4)
             have HY4 := As.mk hc4
             clear hs4 hp4
             have HX4 : As (Chg NoB wd w4) := ⟨Chg.trans (by repeat (first | exact HX.out | (with_reducible apply Chg.drew) | (with_reducible apply Chg.alloc))) hc4 (fun _ _ e => e)⟩
             clear hc4 HX
             have HX := HX4
             clear HX4)
          | (go_simp
             with_reducible refine (many_any 0 (.slice RA rn rn) rl _ ?hv ?hl ?ht).mono ?_
             case hv => exact HRD.out.keep (by repeat (first | exact HX.out | (with_reducible apply Chg.drew) | (with_reducible apply Chg.alloc)))
             case hl => (have := HRL.out.1; omega)
             case ht => exact HRL.out.2
             rintro e4 w5 ⟨u5, rfl, hc4, hm5⟩
             obtain ⟨A5, c5, rfl, _, _, _⟩ := hm5.at_
             rw [HRL.out.1]
             clear hm5
             have HY5 := As.mk hc4
             have HX4 : As (Chg NoB wd w5) := ⟨Chg.trans (by repeat (first | exact HX.out | (with_reducible apply Chg.drew) | (with_reducible apply Chg.alloc))) hc4 (fun _ _ e => e)⟩
             clear hc4 HX
             have HX := HX4
             clear HX4)
          | (go_simp
             with_reducible refine (many_nil _).mono ?_
             rintro e4 w6 ⟨A6, c6, rfl, hc4⟩
             have HY6 := As.mk hc4
             have HX4 : As (Chg NoB wd w6) := ⟨Chg.trans (by repeat (first | exact HX.out | (with_reducible apply Chg.drew) | (with_reducible apply Chg.alloc))) hc4 (fun _ _ e => e)⟩
             clear hc4 HX
             have HX := HX4
             clear HX4)
          | (refine upon_mapUpdate mb k (mapD gl) ?om (by omega) it ?sz _ rfl ?_
             case om => exact HOM.out.keep (by repeat (first | exact HX.out | (with_reducible apply Chg.drew) | (with_reducible apply Chg.alloc)))
             case sz => (have := HP.out.2; simp only [maxLen]; omega)
             intro w7 hom7 hc7
             have HOM7 := As.mk hom7
             have HC7 := As.mk hc7
             have HXM : As (Chg (fun c => c = mb) wd w7) := ⟨Chg.trans (S := fun c => c = mb) (Chg.mono (S := NoB) (by repeat (first | exact HX.out | (with_reducible apply Chg.drew) | (with_reducible apply Chg.alloc))) (fun _ _ e => e.elim)) hc7 (fun _ _ e => e)⟩
             clear hom7 hc7))
        have HID7 : As (∀ q ∈ gl, IdAt w7 q.1 q.2) := ⟨fun q hq => (HIDD.out q hq).chgM HOM.out HXM.out⟩
        have HNEW : As (IdAt w7 w6.heap.size it) := ⟨by
          have ho6 : OwnM (w6.alloc (.cells #[.string it.nm, .pointer none, .pointer (some ⟨gs, 0, none⟩), .slice A5 rn c5, .slice A6 0 c6] 59)) mb k (mapD gl) := HOM.out.keep (HX.out.alloc _)
          have hc6 := ((HY5.out.trans HY6.out (fun _ _ e => e)).alloc (.cells #[.string it.nm, .pointer none, .pointer (some ⟨gs, 0, none⟩), .slice A5 rn c5, .slice A6 0 c6] 59))
          have h : IdAt (w6.alloc (.cells #[.string it.nm, .pointer none, .pointer (some ⟨gs, 0, none⟩), .slice A5 rn c5, .slice A6 0 c6] 59)) w6.heap.size it :=
            ⟨gs, gp, A5, c5, A6, c6, by rw [← HRN.out]; exact Blk.new w6 _ [.string it.nm, .pointer none, .pointer (some ⟨gs, 0, none⟩), .slice A5 rn c5, .slice A6 0 c6], HSG.out.1.chg hc6 (fun e => e), HSG.out.2.chg hc6 (fun e => e)⟩
          exact h.chgM ho6 HC7.out⟩
        have HE7 : As (EntAt w7 ge mb (k + 1) (mapD (gl ++ [(w6.heap.size, it)]))) := ⟨PK, EA1, ec1, EA2, ec2, HBE.out.chg HXM.out (blk_ne_map HBE.out HOM.out), by rw [mapD_snoc]; exact HOM7.out⟩
        have HG7 : As ((gl ++ [(w6.heap.size, it)]).map Prod.snd = l.take (k + 1)) := ⟨by rw [List.map_append, HGL.out, HTK.out]; rfl⟩
        have HI7 : As (∀ q ∈ gl ++ [(w6.heap.size, it)], IdAt w7 q.1 q.2) := ⟨fun q hq => by
          rcases List.mem_append.1 hq with h | h
          · exact HID7.out q h
          · simp at h; subst h; exact HNEW.out⟩
        have HC7' : As (Chg (fun c => c = mb) wc w7) := ⟨(HCK.out.trans HCD.out (fun _ _ e => e.elim)).trans HXM.out (fun _ _ e => e)⟩
        go_wp2_with fail
        go_roundw
        case rel => exact ⟨k + 1, _, by simp, by omega, HG7, HE7, HI7, HC7'⟩
        case measure => show n - ((k : Int) + 1).toNat < n - ((k : Int)).toNat; omega
      · have hz : ¬ ((k : Int) < (n : Int)) := by omega
        have hkn : k = n := by omega
        have HGF : As (gl.map Prod.snd = l) := ⟨by have h := HGL.out; rwa [hkn, HLN.out, List.take_length] at h⟩
        have HEF : As (EntAt wr ge mb l.length (mapD gl)) := ⟨by have h := HEK.out; rwa [hkn, HLN.out] at h⟩
        have HCF : As (Chg NoB w wr) := ⟨HC0.out.trans HCK.out (fun i hi e => by have := hgel.out.2.2; omega)⟩
        have i13 : wr.cell? ⟨b, 13, none⟩ = some (.slice none 0 0) := (HB0.out.chg HCK.out (fun e => by obtain ⟨_, _, _, _, _, _, ho⟩ := HE0.out; exact blk_ne_map HB0.out ho e)).cell 13
        clear hkn HEK HGL
        go_wp2_with fail
        go_loopw [7, 8, 54] (fun _ _ i w' => i = .int .i64 0 ∧ w' = wr) (fun _ _ _ _ => 0)
        case atStart => exact ⟨rfl, rfl⟩
        case round =>
          obtain ⟨rfl, rfl⟩ := hrel
          go_wp2_with fail
          go_ret
          exact ⟨ge, mb, gl, rfl, HGF.out, HEF.out, HID.out, HCF.out⟩
end Go.Proofs.Ytdcamebmbadmbaa
