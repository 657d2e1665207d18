/- The walk of FnEaxDefault. -/
import Derived.Test.YthbgpbaneghmdaaCalled
set_option linter.unusedVariables false
set_option linter.unusedSimpArgs false
namespace Go.Proofs.Ythbgpbaneghmdaa
open Go.RowKit V
theorem Outs.lower {w : World} {base base' : Nat} {v : Value} {l : List (List Int × Bool)} (h : Outs w base v l) (hb : base' ≤ base) : Outs w base' v l := by
  obtain ⟨vs, hl, ho, hi⟩ := h
  refine ⟨vs, hl, ⟨ho.1, ?_⟩, hi⟩
  rcases ho.2 with hn | ⟨g, cap, cur, rfl, hb', r⟩
  · exact .inl hn
  · exact .inr ⟨g, cap, cur, rfl, Nat.le_trans hb hb', r⟩
def GivesOuts (w : World) (l : List (List Int × Bool)) (e : Ending) (w' : World) : Prop :=
  ∃ v, e = .returned (.tuple #[v, .bool true]) ∧ Outs w' w.heap.size v l ∧ Chg NoB w w'
set_option maxRecDepth 100000 in
set_option maxHeartbeats 2000000 in
theorem eaxDefault_any (PA : Option Addr) (pn pc : Nat) (SA : Option Addr) (sn sc : Nat) (MA : Option Addr) (mn mc : Nat) (perm sub mask : List Int) (A : Option Addr) (n c : Nat) (cs : List Cal) (w : World)
    (hp : pn = perm.length) (hs : sn = sub.length) (hm : mn = mask.length) (h16 : mn = 16) (rp : Rb w PA perm) (rs : Rb w SA sub) (rm : Rb w MA mask) (bs : Byt sub) (bm : Byt mask) (hr : RightB perm sub 16)
    (hn : n = cs.length) (hrc : Rcs w A cs) (hf : Few 16 cs) :
    Calls Try.prog 16 #[blkV PA pn pc SA sn sc MA mn mc, .slice A n c] w (GivesOuts w (cs.map (outOf perm sub mask))) := by
  subst h16
  have e1 : pn = 16 := by rw [hp]; exact hr.2.2.1.1
  have e2 : sn = 256 := by rw [hs]; exact hr.2.2.2.1
  subst e1
  subst e2
  have HR := As.mk hr
  have HP := As.mk hp
  have HS := As.mk hs
  have HM : As (mask.length = 16) := ⟨hm.symm⟩
  have HBY := As.mk (And.intro bs bm)
  have RP := As.mk rp
  have RS := As.mk rs
  have RM := As.mk rm
  have HRC := As.mk hrc
  have HN := As.mk hn
  have HF := As.mk hf
  clear hr hp hs hm bs bm rp rs rm hrc hn hf
  unfold blkV
  obtain ⟨w0, hw0⟩ : ∃ w0, w0 = w.alloc (.cells #[.slice PA 16 pc, .slice SA 256 sc, .slice MA 16 mc] 24) := ⟨_, rfl⟩
  have C0 : As (Chg NoB w w0) := ⟨by rw [hw0]; exact (Chg.refl NoB w).alloc _⟩
  have B0 : As (Blk w0 w.heap.size 24 [.slice PA 16 pc, .slice SA 256 sc, .slice MA 16 mc]) := ⟨by rw [hw0]; exact Blk.new _ _ _⟩
  go_enter Try.func16, Try.ntmps16
  go_upto_region 1 with fail
  rw [← hw0]
  have x0 := B0.out.cell 0
  have x1 := B0.out.cell 1
  have x2 := B0.out.cell 2
  simp only [List.getElem?_cons_zero, List.getElem?_cons_succ] at x0 x1 x2
  clear hw0
  go_wp2_with fail
  refine (blockRight_yes PA 16 pc SA 256 sc MA 16 mc perm sub w0 HP.out HS.out (RP.out.keep C0.out) (RS.out.keep C0.out) HR.out).mono ?_
  rintro e1 w1 ⟨rfl, hc1⟩
  have C1 := As.mk (C0.out.trans hc1 (fun _ _ e => e))
  have B1 := As.mk (B0.out.chg hc1 (fun e => e))
  clear hc1 x0 x1 x2 B0
  have x0 := B1.out.cell 0
  have x1 := B1.out.cell 1
  have x2 := B1.out.cell 2
  simp only [List.getElem?_cons_zero, List.getElem?_cons_succ] at x0 x1 x2
  go_wp2_with fail
  refine (cipherOf_any PA 16 pc SA sc MA 16 mc perm sub mask w1 HP.out.symm HS.out.symm HM.out (by omega) (by omega) (RP.out.keep C1.out) (RS.out.keep C1.out) (RM.out.keep C1.out) HBY.out.1).mono ?_
  rintro e2 w2 ⟨hc2, lo, hi, B, rfl, hlo, hhi, hcb⟩
  have C2 := As.mk (C1.out.trans hc2 (fun _ _ e => e))
  have CB := As.mk hcb
  have HHI := As.mk hhi
  clear hc2 hlo hhi hcb x0 x1 x2 B1
  go_wp2_with fail
  refine (newEax_any CB.out HM.out).mono ?_
  rintro e3 w3 ⟨E, rfl, h1, h2, h3⟩
  have HEX : As (Eax w3 E B 16 16) := ⟨h1⟩
  have C3 := As.mk (C2.out.trans h3 (fun _ _ e => e))
  have CB3 := As.mk (CB.out.keep h3)
  have HH3 := As.mk (Nat.le_trans HHI.out h3.size)
  clear h1 h2 h3
  go_wp2_with fail
  refine (called_any CB3.out HR.out HM.out HBY.out.1 HBY.out.2 HEX.out HH3.out A n c cs HN.out (HRC.out.keep C3.out) HF.out).mono ?_
  rintro e4 w4 ⟨v4, rfl, ho4, hc4⟩
  have O4 := As.mk (ho4.lower C3.out.size)
  have C4 := As.mk (C3.out.trans hc4 (fun _ _ e => e))
  clear ho4 hc4
  go_wp2_with fail
  go_ret2
  exact ⟨v4, rfl, O4.out, C4.out⟩
end Go.Proofs.Ythbgpbaneghmdaa
namespace Go.Proofs.Ythbgpbaneghmdaa
open Go.RowKit V
set_option maxRecDepth 100000 in
set_option maxHeartbeats 1000000 in
theorem said_no (A : Option Addr) (c : Nat) (TA : Option Addr) (tn tc : Nat) (w : World) :
    Calls Try.prog 40 #[.agg #[.slice A 0 c, .bool false], .slice TA tn tc, .bool false] w fun e w' => e = .returned (.bool true) ∧ Chg NoB w w' := by
  go_enter Try.func40, Try.ntmps40
  go_wp2_with fail
  go_ret
  exact ⟨rfl, (Chg.refl _ _).alloc _⟩
set_option maxRecDepth 100000 in
set_option maxHeartbeats 1000000 in
theorem said_yes (A : Option Addr) (n c : Nat) (TA : Option Addr) (tc : Nat) (xs : List Int) (w : World) (hn : n = xs.length) (hx : Rb w A xs) (hy : Rb w TA xs) :
    Calls Try.prog 40 #[.agg #[.slice A n c, .bool true], .slice TA n tc, .bool true] w fun e w' => e = .returned (.bool true) ∧ Chg NoB w w' := by
  have HN := As.mk hn
  have HX := As.mk hx
  have HY := As.mk hy
  clear hn hx hy
  go_enter Try.func40, Try.ntmps40
  go_wp2_with fail
  refine (same_yes A n c xs TA n tc _ HN.out HN.out (HX.out.alloc _) (HY.out.alloc _)).mono ?_
  rintro e w2 ⟨rfl, m, rfl⟩
  go_wp2_with fail
  go_ret
  exact ⟨rfl, ((Chg.refl _ _).alloc _).drewN m⟩
end Go.Proofs.Ythbgpbaneghmdaa
namespace Go.Proofs.Ythbgpbaneghmdaa
open Go.RowKit V
/-- A row of what calls gave, as it is read. -/
def Ros (w : World) (A : Option Addr) (vs : List (Sl × Bool)) (ls : List (List Int × Bool)) : Prop :=
  vs.length = ls.length ∧ (0 < vs.length → ∃ ad, A = some ad ∧ ∀ k (h : k < vs.length), w.cell? (ad.add (k * 2)) = some (.slice vs[k].1.1 vs[k].1.2.1 vs[k].1.2.2) ∧ w.cell? ⟨(ad.add (k * 2)).block, (ad.add (k * 2)).off + 1, none⟩ = some (.bool vs[k].2)) ∧
    ∀ (i : Nat) (p : Sl × Bool) (x : List Int × Bool), vs[i]? = some p → ls[i]? = some x → p.2 = x.2 ∧ p.1.2.1 = x.1.length ∧ Rb w p.1.1 x.1
theorem Outs.row {w : World} {base : Nat} {v : Value} {l : List (List Int × Bool)} (h : Outs w base v l) : ∃ A c vs, v = .slice A l.length c ∧ Ros w A vs l := by
  obtain ⟨vs, hl, ho, hi⟩ := h
  obtain ⟨A, c, hv, _, _, hg⟩ := row_form ho
  refine ⟨A, c, vs, hv, hl, fun hn => ?_, fun i p x a b => ⟨(hi i p x a b).1, (hi i p x a b).2.1, (hi i p x a b).2.2.2.1⟩⟩
  obtain ⟨g, hA, _, _, _, hcell⟩ := hg (by omega)
  refine ⟨⟨g, 0, none⟩, hA, fun k hk => ⟨?_, ?_⟩⟩
  · rw [add_lit0]
    have h := flat_at outCells 2 (fun _ => rfl) vs k vs[k] 0 (List.getElem?_eq_getElem hk) (by omega)
    exact hcell _ _ h
  · rw [add_lit0]
    have h := flat_at outCells 2 (fun _ => rfl) vs k vs[k] 1 (List.getElem?_eq_getElem hk) (by omega)
    exact hcell _ _ h
theorem Chg.cell_any {w w' : World} {p : Addr} {u : Value} (h : Chg NoB w w') (hc : w.cell? p = some u) : w'.cell? p = some u :=
  (V.Chg.cell h (World.block_lt_of_cell? w _ hc) (fun e => e)).trans hc
theorem Ros.keep {w w' : World} {A : Option Addr} {vs : List (Sl × Bool)} {ls : List (List Int × Bool)} (h : Ros w A vs ls) (hc : Chg NoB w w') : Ros w' A vs ls :=
  ⟨h.1, fun hn => by
    obtain ⟨ad, e, hcell⟩ := h.2.1 hn
    exact ⟨ad, e, fun k hk => ⟨Chg.cell_any hc (hcell k hk).1, Chg.cell_any hc (hcell k hk).2⟩⟩, fun i p x a b => ⟨(h.2.2 i p x a b).1, (h.2.2 i p x a b).2.1, (h.2.2 i p x a b).2.2.keep hc⟩⟩
set_option maxRecDepth 100000 in
set_option maxHeartbeats 8000000 in
theorem eaxes_any (PA : Option Addr) (pc : Nat) (SA : Option Addr) (sc : Nat) (MA : Option Addr) (mc : Nat) (perm sub mask : List Int) (A : Option Addr) (n c : Nat) (cs : List Cal) (OA : Option Addr) (oc : Nat) (vs : List (Sl × Bool)) (w : World)
    (hd : Pd w PA SA MA perm sub mask) (hrt : Rt perm sub mask) (hn : n = cs.length) (hrc : Rcs w A cs) (hf : Few 16 cs) (hro : Ros w OA vs (cs.map (outOf perm sub mask))) :
    Calls Try.prog 17 #[blkV PA 16 pc SA 256 sc MA 16 mc, .int .i64 16, .slice A n c, .slice OA n oc] w fun e w' => e = .returned (.bool true) ∧ Chg NoB w w' := by
  have HPD0 := As.mk hd
  have HRT := As.mk hrt
  have HN := As.mk hn
  have HRC0 := As.mk hrc
  have HF := As.mk hf
  have HRO0 := As.mk hro
  have hn40 : n ≤ 40 := by rw [hn]; exact hf.2
  have hbne : ((n : Int) != (n : Int)) = false := by simp
  clear hd hrt hn hrc hf hro
  unfold blkV
  obtain ⟨bx, hbx⟩ : ∃ bx, bx = w.heap.size := ⟨_, rfl⟩
  obtain ⟨w0, hw0⟩ : ∃ w0, w0 = w.alloc (.cells #[.slice PA 16 pc, .slice SA 256 sc, .slice MA 16 mc] 24) := ⟨_, rfl⟩
  have C0 : As (Chg NoB w w0) := ⟨by rw [hw0]; exact (Chg.refl NoB w).alloc _⟩
  have B0 : As (Blk w0 bx 24 [.slice PA 16 pc, .slice SA 256 sc, .slice MA 16 mc]) := ⟨by rw [hw0, hbx]; exact Blk.new _ _ _⟩
  have HPD := As.mk (HPD0.out.keep C0.out)
  have HRC := As.mk (HRC0.out.keep C0.out)
  have HRO := As.mk (HRO0.out.keep C0.out)
  clear HPD0 HRC0 HRO0
  go_enter Try.func17, Try.ntmps17
  go_upto_region 1 with fail
  simp only [← hbx]
  rw [hbx, ← hw0, ← hbx]
  clear hw0 hbx
  go_wp2_with fail
  go_loopw [9] (fun iv wr => ∃ k : Nat, k ≤ n ∧ iv = .int .i64 k ∧ As (Chg NoB w0 wr)) (fun iv _ => n - (intOf iv).toNat)
  case atStart => exact ⟨0, Nat.zero_le _, rfl, ⟨Chg.refl _ _⟩⟩
  case round =>
    obtain ⟨k, hk, rfl, HC⟩ := hrel
    by_cases hlt : k < n
    · have hltz : (k : Int) < (n : Int) := by omega
      have hkc : k < cs.length := by have := HN.out; omega
      have hkv : k < vs.length := by have h := HRO.out.1; rw [List.length_map] at h; omega
      obtain ⟨ad, eA, g0, g1, g2, g3⟩ := (HRC.out.keep HC.out).at_ k hkc
      subst eA
      obtain ⟨od, eO, hoc⟩ := (HRO.out.keep HC.out).2.1 (by omega)
      subst eO
      obtain ⟨q0, q1⟩ := hoc k hkv
      obtain ⟨hp1, hp2, hp3⟩ := (HRO.out.keep HC.out).2.2 k vs[k] (outOf perm sub mask cs[k]) (List.getElem?_eq_getElem hkv) (by rw [List.getElem?_map, List.getElem?_eq_getElem hkc]; rfl)
      have hxk := (HRC.out.keep HC.out).2.2 _ (List.getElem_mem hkc)
      have hfew := HF.out.1 _ (List.getElem_mem hkc)
      clear hoc
      generalize vs[k] = p at *
      generalize cs[k] = x at *
      obtain ⟨op, ⟨Aa, la, ca⟩, nonce, ⟨Ab, lb, cb⟩, text, ⟨Ac, lc, cc⟩, hdr⟩ := x
      simp only at g0 g1 g2 g3 hfew
      obtain ⟨hla, hlbc⟩ := hfew
      subst hla
      have HXK := As.mk hxk
      have e1 : IntKind.i64.wrap ((k : Int) + 1) = ((k + 1 : Nat) : Int) := by rw [IntKind.wrap_i64]; omega
      have HP123 := As.mk (And.intro hp1 (And.intro hp2 hp3))
      have HQ01 := As.mk (And.intro q0 q1)
      clear hp1 hp2 hp3 q0 q1 hxk
      go_upto_region 7 with fail
      obtain ⟨D, hD⟩ : ∃ D, D = wr.heap.size := ⟨_, rfl⟩
      simp only [← hD]
      refine wp_world (fun w' => Blk w' D 63 [.bool op, .slice Aa 16 ca, .slice Ab lb cb, .slice Ac lc cc] ∧ Chg NoB wr w') ⟨by rw [hD]; exact Blk.new wr _ [.bool op, .slice Aa 16 ca, .slice Ab lb cb, .slice Ac lc cc], (Chg.refl NoB wr).alloc _⟩ ?_
      intro w1 h1
      have B1 := As.mk h1.1
      have C1 := As.mk (HC.out.trans h1.2 (fun _ _ e => e))
      have BX1 := As.mk (B0.out.chg C1.out (fun e => e))
      obtain ⟨⟨ka1, ka2, ka3, ka4⟩, ⟨kb1, kb2, kb3, kb4⟩, kc1, kc2, kc3, kc4⟩ := HXK.out
      simp only at ka1 ka2 ka3 ka4 kb1 kb2 kb3 kb4 kc1 kc2 kc3 kc4
      have KA := As.mk (And.intro ka1 (And.intro (ka3.keep h1.2) ka4))
      have KB := As.mk (And.intro kb1 (And.intro (kb3.keep h1.2) (And.intro kb4 kb2)))
      have KC := As.mk (And.intro kc1 (And.intro (kc3.keep h1.2) kc4))
      have HO123 := As.mk (And.intro HP123.out.1 (And.intro HP123.out.2.1 (HP123.out.2.2.keep h1.2)))
      have HQ1 := As.mk (And.intro (Chg.cell_any h1.2 HQ01.out.1) (Chg.cell_any h1.2 HQ01.out.2))
      have HB : As (Chg NoB w1 w1) := ⟨Chg.refl _ _⟩
      have KP : As (∀ w', Chg NoB w1 w' → w'.cell? ⟨D, 1, none⟩ = some (.slice Aa 16 ca) ∧ w'.cell? ⟨D, 2, none⟩ = some (.slice Ab lb cb) ∧ w'.cell? ⟨D, 3, none⟩ = some (.slice Ac lc cc) ∧ w'.cell? ⟨bx, 0, none⟩ = some (.slice PA 16 pc) ∧ w'.cell? ⟨bx, 1, none⟩ = some (.slice SA 256 sc) ∧ w'.cell? ⟨bx, 2, none⟩ = some (.slice MA 16 mc)) := ⟨fun w' hc => by
        have hb := B1.out.chg hc (fun e => e)
        have hx := BX1.out.chg hc (fun e => e)
        exact ⟨hb.cell 1, hb.cell 2, hb.cell 3, hx.cell 0, hx.cell 1, hx.cell 2⟩⟩
      clear h1 hD g0 g1 g2 g3 HC HP123 HQ01 ka1 ka2 ka3 ka4 kb1 kb2 kb3 kb4 kc1 kc2 kc3 kc4 HXK
      go_region_held3 (fun w' => w'.cell? ⟨D, 1, none⟩ = some (.slice Aa 16 ca) ∧ w'.cell? ⟨D, 2, none⟩ = some (.slice Ab lb cb) ∧ w'.cell? ⟨D, 3, none⟩ = some (.slice Ac lc cc) ∧ w'.cell? ⟨bx, 0, none⟩ = some (.slice PA 16 pc) ∧ w'.cell? ⟨bx, 1, none⟩ = some (.slice SA 256 sc) ∧ w'.cell? ⟨bx, 2, none⟩ = some (.slice MA 16 mc)) (exact KP.out _ (by repeat (first | (with_reducible exact HB.out) | (with_reducible apply Chg.drew) | (with_reducible apply Chg.alloc)))) (first
      | (go_at_call 13
         refine (data_any PA 16 pc SA 256 sc MA 16 mc _).mono ?_
         rintro e w2 ⟨rfl, hc2⟩
         have HB2 : As (Chg NoB w1 w2) := ⟨Chg.trans (by repeat (first | (with_reducible exact HB.out) | (with_reducible apply Chg.drew) | (with_reducible apply Chg.alloc))) hc2 (fun _ _ e => e)⟩
         clear HB hc2
         have HB := HB2
         clear HB2)
      | (go_at_call 38
         refine (eaxSeal_any (HPD.out.keep (C1.out.trans HB.out (fun _ _ e => e))) HRT.out (KA.out.2.1.keep HB.out) KA.out.1 KA.out.2.2 (KB.out.2.1.keep HB.out) KB.out.1 KB.out.2.2.2 KB.out.2.2.1 (KC.out.2.1.keep HB.out) KC.out.1 KC.out.2.2 (by omega) (by omega) (by omega)).mono ?_
         rintro e w3 hp3
         obtain ⟨v7, rfl, ho7, hc3⟩ := hp3
         obtain ⟨A7, c7, hv7, hn7, hr7⟩ := ow_form ho7
         subst hv7
         have R7 := As.mk hr7
         clear ho7 hr7 hn7
         have HB3 : As (Chg NoB w1 w3) := ⟨HB.out.trans hc3 (fun _ _ e => e)⟩
         clear HB hc3
         have HB := HB3
         clear HB3))
      all_goals
        have d0 := (B1.out.chg HB.out (fun e => e)).cell 0
        simp only [List.getElem?_cons_zero] at d0
        cases op with
        | false =>
          have HOF : As (outOf perm sub mask ⟨false, (Aa, 16, ca), nonce, (Ab, lb, cb), text, (Ac, lc, cc), hdr⟩ = (eaxSealL perm sub mask nonce text hdr, true)) := ⟨rfl⟩
          obtain ⟨⟨OAk, ok, ock⟩, okb⟩ := p
          obtain ⟨hp1, hp2, hp3⟩ := HO123.out
          have q0 := Chg.cell_any HB.out HQ1.out.1
          have q1 := Chg.cell_any HB.out HQ1.out.2
          rw [HOF.out] at hp1 hp2 hp3
          simp only at hp1 hp2 hp3 q0 q1
          subst hp1
          subst hp2
          have HPR := As.mk (hp3.keep HB.out)
          clear hp3 HO123 HQ1
          go_wp2_with fail
          refine (said_yes OAk _ ock A7 c7 (eaxSealL perm sub mask nonce text hdr) _ rfl HPR.out R7.out).mono ?_
          rintro e w12 ⟨rfl, hc12⟩
          have C12 := As.mk ((C1.out.trans HB.out (fun _ _ e => e)).trans hc12 (fun _ _ e => e))
          clear hc12
          go_wp2_with fail
          go_roundw
          case rel => exact ⟨k + 1, by omega, by go_num, C12⟩
          case measure => simp [intOf]; omega
        | true =>
          obtain ⟨ro, hro⟩ : ∃ ro, ro = eaxOpenL perm sub mask nonce text hdr := ⟨_, rfl⟩
          have HRP := As.mk hro
          cases ro with
          | none =>
            have HOF : As (outOf perm sub mask ⟨true, (Aa, 16, ca), nonce, (Ab, lb, cb), text, (Ac, lc, cc), hdr⟩ = ([], false)) := ⟨by unfold outOf; simp only [if_true]; rw [← hro]⟩
            clear hro
            go_upto_region 9 with fail
            go_region_held3 (fun w' => w'.cell? ⟨D, 1, none⟩ = some (.slice Aa 16 ca) ∧ w'.cell? ⟨D, 2, none⟩ = some (.slice Ab lb cb) ∧ w'.cell? ⟨D, 3, none⟩ = some (.slice Ac lc cc) ∧ w'.cell? ⟨bx, 0, none⟩ = some (.slice PA 16 pc) ∧ w'.cell? ⟨bx, 1, none⟩ = some (.slice SA 256 sc) ∧ w'.cell? ⟨bx, 2, none⟩ = some (.slice MA 16 mc)) (exact KP.out _ (by repeat (first | (with_reducible exact HB.out) | (with_reducible apply Chg.drew) | (with_reducible apply Chg.alloc)))) (first
            | (go_at_call 13
               refine (data_any PA 16 pc SA 256 sc MA 16 mc _).mono ?_
               rintro e w4 ⟨rfl, hc4⟩
               have HB4 : As (Chg NoB w1 w4) := ⟨Chg.trans (by repeat (first | (with_reducible exact HB.out) | (with_reducible apply Chg.drew) | (with_reducible apply Chg.alloc))) hc4 (fun _ _ e => e)⟩
               clear HB hc4
               have HB := HB4
               clear HB4)
            | (go_at_call 39
               refine (eaxOpen_any (HPD.out.keep (C1.out.trans HB.out (fun _ _ e => e))) HRT.out (KA.out.2.1.keep HB.out) KA.out.1 KA.out.2.2 (KB.out.2.1.keep HB.out) KB.out.1 KB.out.2.2.2 KB.out.2.2.1 (KC.out.2.1.keep HB.out) KC.out.1 KC.out.2.2 (by omega) (by omega) (by omega)).mono ?_
               rintro e w5 hp5
               rw [← HRP.out] at hp5
               obtain ⟨hc5, rfl⟩ := hp5
               have HB5 : As (Chg NoB w1 w5) := ⟨HB.out.trans hc5 (fun _ _ e => e)⟩
               clear HB hc5
               have HB := HB5
               clear HB5))
            all_goals
              obtain ⟨⟨OAk, ok, ock⟩, okb⟩ := p
              obtain ⟨hp1, hp2, hp3⟩ := HO123.out
              have q0 := Chg.cell_any HB.out HQ1.out.1
              have q1 := Chg.cell_any HB.out HQ1.out.2
              rw [HOF.out] at hp1 hp2 hp3
              simp only at hp1 hp2 hp3 q0 q1
              subst hp1
              subst hp2
              have HPR := As.mk (hp3.keep HB.out)
              clear hp3 HO123 HQ1
              go_wp2_with fail
              refine (said_no OAk ock none 0 0 _).mono ?_
              rintro e w12 ⟨rfl, hc12⟩
              have C12 := As.mk ((C1.out.trans HB.out (fun _ _ e => e)).trans hc12 (fun _ _ e => e))
              clear hc12
              go_wp2_with fail
              go_roundw
              case rel => exact ⟨k + 1, by omega, by go_num, C12⟩
              case measure => simp [intOf]; omega
          | some xs =>
            have HOF : As (outOf perm sub mask ⟨true, (Aa, 16, ca), nonce, (Ab, lb, cb), text, (Ac, lc, cc), hdr⟩ = (xs, true)) := ⟨by unfold outOf; simp only [if_true]; rw [← hro]⟩
            clear hro
            go_upto_region 9 with fail
            go_region_held3 (fun w' => w'.cell? ⟨D, 1, none⟩ = some (.slice Aa 16 ca) ∧ w'.cell? ⟨D, 2, none⟩ = some (.slice Ab lb cb) ∧ w'.cell? ⟨D, 3, none⟩ = some (.slice Ac lc cc) ∧ w'.cell? ⟨bx, 0, none⟩ = some (.slice PA 16 pc) ∧ w'.cell? ⟨bx, 1, none⟩ = some (.slice SA 256 sc) ∧ w'.cell? ⟨bx, 2, none⟩ = some (.slice MA 16 mc)) (exact KP.out _ (by repeat (first | (with_reducible exact HB.out) | (with_reducible apply Chg.drew) | (with_reducible apply Chg.alloc)))) (first
            | (go_at_call 13
               refine (data_any PA 16 pc SA 256 sc MA 16 mc _).mono ?_
               rintro e w4 ⟨rfl, hc4⟩
               have HB4 : As (Chg NoB w1 w4) := ⟨Chg.trans (by repeat (first | (with_reducible exact HB.out) | (with_reducible apply Chg.drew) | (with_reducible apply Chg.alloc))) hc4 (fun _ _ e => e)⟩
               clear HB hc4
               have HB := HB4
               clear HB4)
            | (go_at_call 39
               refine (eaxOpen_any (HPD.out.keep (C1.out.trans HB.out (fun _ _ e => e))) HRT.out (KA.out.2.1.keep HB.out) KA.out.1 KA.out.2.2 (KB.out.2.1.keep HB.out) KB.out.1 KB.out.2.2.2 KB.out.2.2.1 (KC.out.2.1.keep HB.out) KC.out.1 KC.out.2.2 (by omega) (by omega) (by omega)).mono ?_
               rintro e w5 hp5
               rw [← HRP.out] at hp5
               obtain ⟨hc5, v9, rfl, ho9⟩ := hp5
               obtain ⟨A9, c9, hv9, hn9, hr9⟩ := ow_form ho9
               subst hv9
               have R9 := As.mk hr9
               clear ho9 hr9 hn9
               have HB5 : As (Chg NoB w1 w5) := ⟨HB.out.trans hc5 (fun _ _ e => e)⟩
               clear HB hc5
               have HB := HB5
               clear HB5))
            all_goals
              obtain ⟨⟨OAk, ok, ock⟩, okb⟩ := p
              obtain ⟨hp1, hp2, hp3⟩ := HO123.out
              have q0 := Chg.cell_any HB.out HQ1.out.1
              have q1 := Chg.cell_any HB.out HQ1.out.2
              rw [HOF.out] at hp1 hp2 hp3
              simp only at hp1 hp2 hp3 q0 q1
              subst hp1
              subst hp2
              have HPR := As.mk (hp3.keep HB.out)
              clear hp3 HO123 HQ1
              go_wp2_with fail
              refine (said_yes OAk _ ock A9 c9 xs _ rfl HPR.out R9.out).mono ?_
              rintro e w12 ⟨rfl, hc12⟩
              have C12 := As.mk ((C1.out.trans HB.out (fun _ _ e => e)).trans hc12 (fun _ _ e => e))
              clear hc12
              go_wp2_with fail
              go_roundw
              case rel => exact ⟨k + 1, by omega, by go_num, C12⟩
              case measure => simp [intOf]; omega
    · have hz : ¬ ((k : Int) < (n : Int)) := by omega
      go_wp2_with fail
      go_ret
      exact ⟨rfl, C0.out.trans HC.out (fun _ _ e => e)⟩
end Go.Proofs.Ythbgpbaneghmdaa
namespace Go.Proofs.Ythbgpbaneghmdaa
open Go.RowKit V
/-- It answers true, and nothing that was has turned. -/
def Aye (w : World) (e : Ending) (w' : World) : Prop := e = .returned (.bool true) ∧ Below w.heap.size w w'
theorem Aye.of {w w' : World} (h : Chg NoB w w') : Aye w (.returned (.bool true)) w' := ⟨rfl, h.below (Nat.le_refl _) (fun _ _ e => e)⟩
set_option maxRecDepth 100000 in
set_option maxHeartbeats 4000000 in
theorem fnEaxDefault_main (PA : Option Addr) (pn pc : Nat) (SA : Option Addr) (sn sc : Nat) (MA : Option Addr) (mn mc : Nat) (perm sub mask : List Int) (A : Option Addr) (n c : Nat) (cs : List Cal) (w : World)
    (hp : pn = perm.length) (hs : sn = sub.length) (hm : mn = mask.length) (rp : Rb w PA perm) (rs : Rb w SA sub) (rm : Rb w MA mask) (bp : Byt perm) (bs : Byt sub) (bm : Byt mask)
    (hn : n = cs.length) (hrc : Rcs w A cs) :
    Calls Try.prog 4 #[blkV PA pn pc SA sn sc MA mn mc, .slice A n c] w (Aye w) := by
  have HP := As.mk hp
  have HS := As.mk hs
  have HM := As.mk hm
  have HN := As.mk hn
  have RP := As.mk rp
  have RS := As.mk rs
  have RM := As.mk rm
  have HRC := As.mk hrc
  have HB := As.mk (And.intro bp (And.intro bs bm))
  clear hp hs hm hn rp rs rm bp bs bm hrc
  unfold blkV
  obtain ⟨w0, hw0⟩ : ∃ w0, w0 = w.alloc (.cells #[.slice PA pn pc, .slice SA sn sc, .slice MA mn mc] 24) := ⟨_, rfl⟩
  have C0 : As (Chg NoB w w0) := ⟨by rw [hw0]; exact (Chg.refl NoB w).alloc _⟩
  have B0 : As (Blk w0 w.heap.size 24 [.slice PA pn pc, .slice SA sn sc, .slice MA mn mc]) := ⟨by rw [hw0]; exact Blk.new _ _ _⟩
  have KB : As (∀ w', Chg NoB w0 w' → w'.cell? ⟨w.heap.size, 0, none⟩ = some (.slice PA pn pc) ∧ w'.cell? ⟨w.heap.size, 1, none⟩ = some (.slice SA sn sc) ∧ w'.cell? ⟨w.heap.size, 2, none⟩ = some (.slice MA mn mc)) := ⟨fun w' hc => by
    have h := B0.out.chg hc (fun e => e)
    exact ⟨h.cell 0, h.cell 1, h.cell 2⟩⟩
  obtain ⟨X0, X1, X2⟩ := KB.out w0 (Chg.refl _ _)
  obtain ⟨d1, hd1⟩ : ∃ d1, d1 = decide (Fits27 pn sn mn) := ⟨_, rfl⟩
  obtain ⟨d2, hd2⟩ : ∃ d2, d2 = decide (Fit36 n cs) := ⟨_, rfl⟩
  obtain ⟨d3, hd3⟩ : ∃ d3, d3 = decide (mn = 16 ∧ RightB perm sub 16) := ⟨_, rfl⟩
  have HD1 := As.mk hd1
  have HD2 := As.mk hd2
  have HD3 := As.mk hd3
  clear hd1 hd2 hd3
  go_enter Try.func4, Try.ntmps4
  go_upto_region 1 with fail
  rw [← hw0]
  clear hw0 B0
  go_wp2_with fail
  refine (fits27_any PA pn pc SA sn sc MA mn mc w0).mono ?_
  rintro e1 w1 ⟨he, hc1⟩
  rw [← HD1.out] at he
  subst he
  have C1 := As.mk hc1
  clear hc1 X0 X1 X2
  cases d1 with
  | false =>
    go_wp2_with fail
    go_ret
    exact Aye.of (C0.out.trans C1.out (fun _ _ e => e))
  | true =>
    go_wp2_with fail
    refine (fits36_any A n c cs w1 HN.out (HRC.out.keep (C0.out.trans C1.out (fun _ _ e => e)))).mono ?_
    rintro e2 w2 ⟨he, hc2⟩
    rw [← HD2.out] at he
    subst he
    have C2 := As.mk (C1.out.trans hc2 (fun _ _ e => e))
    clear hc2 C1
    obtain ⟨X0, X1, X2⟩ := KB.out w2 C2.out
    cases d2 with
    | false =>
      go_wp2_with fail
      go_ret
      exact Aye.of (C0.out.trans C2.out (fun _ _ e => e))
    | true =>
      have CW2 := As.mk (C0.out.trans C2.out (fun _ _ e => e))
      go_wp2_with fail
      refine (wide_any PA pn pc SA sn sc MA mn mc perm sub w2 HP.out HS.out (RP.out.keep CW2.out) (RS.out.keep CW2.out) HB.out.1 HB.out.2.1).mono ?_
      rintro e3 w3 ⟨he, hc3⟩
      rw [← HD3.out] at he
      subst he
      have C3 := As.mk (C2.out.trans hc3 (fun _ _ e => e))
      clear hc3 C2 CW2 X0 X1 X2
      cases d3 with
      | false =>
        go_wp2_with fail
        go_ret
        exact Aye.of (C0.out.trans C3.out (fun _ _ e => e))
      | true =>
        have CW3 := As.mk (C0.out.trans C3.out (fun _ _ e => e))
        have HF36 : As (Fit36 n cs) := ⟨of_decide_eq_true HD2.out.symm⟩
        have HWD : As (mn = 16 ∧ RightB perm sub 16) := ⟨of_decide_eq_true HD3.out.symm⟩
        go_wp2_with fail
        refine (few_any A n c 16 cs w3 HN.out (HRC.out.keep CW3.out) HF36.out (by omega)).mono ?_
        rintro e4 w4 ⟨b4, rfl, hb4, m4, rfl⟩
        have HB4 := As.mk hb4
        have C4 := As.mk (C3.out.drewN m4)
        have CW4 := As.mk (CW3.out.drewN m4)
        clear hb4 C3 CW3
        obtain ⟨X0, X1, X2⟩ := KB.out _ C4.out
        cases b4 with
        | false =>
          go_wp2_with fail
          go_ret
          exact Aye.of CW4.out
        | true =>
          have HFEW := As.mk (HB4.out rfl)
          clear HB4
          go_wp2_with fail
          refine (eaxDefault_any PA pn pc SA sn sc MA mn mc perm sub mask A n c cs _ HP.out HS.out HM.out HWD.out.1 (RP.out.keep CW4.out) (RS.out.keep CW4.out) (RM.out.keep CW4.out) HB.out.2.1 HB.out.2.2 HWD.out.2 HN.out (HRC.out.keep CW4.out) HFEW.out).mono ?_
          rintro e5 w5 ⟨v5, rfl, ho5, hc5⟩
          obtain ⟨OA, oc, vs, hv5, hro⟩ := ho5.row
          rw [List.length_map, ← HN.out] at hv5
          subst hv5
          have HRO := As.mk hro
          have C5 := As.mk (C4.out.trans hc5 (fun _ _ e => e))
          have CW5 := As.mk (CW4.out.trans hc5 (fun _ _ e => e))
          clear hro hc5 ho5 C4 CW4 X0 X1 X2
          obtain ⟨X0, X1, X2⟩ := KB.out _ C5.out
          have hpn : pn = 16 := by rw [HP.out]; exact HWD.out.2.2.2.1.1
          have hsn : sn = 256 := by rw [HS.out]; exact HWD.out.2.2.2.2.1
          have hmn : mn = 16 := HWD.out.1
          have HML : As (mask.length = 16) := ⟨by rw [← HM.out]; exact HWD.out.1⟩
          subst hpn
          subst hsn
          subst hmn
          go_wp2_with fail
          refine (eaxes_any PA pc SA sc MA mc perm sub mask A n c cs OA oc vs _ ⟨RP.out.keep CW5.out, RS.out.keep CW5.out, RM.out.keep CW5.out⟩ ⟨HWD.out.2, HML.out, HB.out.2.1, HB.out.2.2⟩ HN.out (HRC.out.keep CW5.out) HFEW.out HRO.out).mono ?_
          rintro e6 w6 ⟨rfl, hc6⟩
          have CW6 := As.mk (CW5.out.trans hc6 (fun _ _ e => e))
          clear hc6
          go_wp2_with fail
          go_ret
          exact Aye.of CW6.out
theorem fnEaxDefault_walk (PA : Option Addr) (pc : Nat) (perm : List Int) (SA : Option Addr) (sc : Nat) (sub : List Int) (MA : Option Addr) (mc : Nat) (mask : List Int) (A : Option Addr) (n c : Nat) (cs : List Cal) (W : World)
    (rp : Rk .u8 W PA perm) (bp : Byt perm) (rs : Rk .u8 W SA sub) (bs : Byt sub) (rm : Rk .u8 W MA mask) (bm : Byt mask) (hn : n = cs.length) (hrc : Rcs W A cs) :
    Calls Try.prog 4 #[.agg #[.slice PA perm.length pc, .slice SA sub.length sc, .slice MA mask.length mc], .slice A n c] W fun e w' => e = .returned (.bool true) ∧ Below W.heap.size W w' :=
  fnEaxDefault_main PA perm.length pc SA sub.length sc MA mask.length mc perm sub mask A n c cs W rfl rfl rfl rp rs rm bp bs bm hn hrc
end Go.Proofs.Ythbgpbaneghmdaa
