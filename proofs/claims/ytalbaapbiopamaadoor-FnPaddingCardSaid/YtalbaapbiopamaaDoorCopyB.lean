/- The contract of io.copyBuffer from a limited reader of a source to a writer that takes all. -/
import Derived.Test.YtalbaapbiopamaaDoorLimRead
import Derived.Deep.DeepCutAuto
set_option linter.unusedVariables false
set_option linter.unusedSimpArgs false
namespace Go.Proofs.YtalbaapbiopamaaDoor
open Go.RowKit V
theorem ta_wt (a : Addr) (w : World) : (Instr.typeAssert (.iface 76 (.pointer (some a))) 55 80 true).run Tryd.prog w = .ok (.tuple #[.nilIface, .bool false]) w :=
  run_typeAssert_lacksB Tryd.underlying80 (by kernel_rfl) (by kernel_rfl) _ _ _
theorem ta_lr (a : Addr) (w : World) : (Instr.typeAssert (.iface 76 (.pointer (some a))) 55 76 true).run Tryd.prog w = .ok (.tuple #[.pointer (some a), .bool true]) w := by kernel_rfl
theorem nil_aheadL (a : Addr) (w : World) : (nilAhead 212 76 (.pointer (some a)) "Read").run Tryd.prog w = .ok (some false) w := by kernel_rfl
theorem method_readL (a : Addr) (w : World) : (method 212 76 (.pointer (some a)) "Read").run Tryd.prog w = .ok (42, .pointer (some a)) w := by kernel_rfl
theorem nilEqB (w : World) : (binOp .eql 23 (.slice none 0 0) (.slice none 0 0)).run Tryd.prog w = .ok (.bool true) w := by kernel_rfl
theorem ptrSameN (a : Addr) (w : World) : (binOp .neq 38 (.iface 88 (.pointer (some a))) (.iface 88 (.pointer (some a)))).run Tryd.prog w = .ok (.bool false) w := by
  have h1 : (Tryd.prog.info? 88).map (·.comparable) = some true := by kernel_rfl
  have h2 : (Tryd.prog.info? 109).isSome = true := by kernel_rfl
  obtain ⟨i, hi, hc⟩ := Option.map_eq_some_iff.1 h1
  obtain ⟨j, hj⟩ := Option.isSome_iff_exists.1 h2
  simp only [binOp]
  simp [Op.equal, Op.maxDepth, run_equalIn_iface_ptr_same w 9998 a Tryd.underlying38 Tryd.underlying88 hi hc hj]
/-- How long a buffer is made. -/
def bufLen (n : Nat) : Nat := if n < 1 then 1 else if n < 32768 then n else 32768
theorem bufLen_pos (n : Nat) : 1 ≤ bufLen n ∧ bufLen n ≤ 32768 := by unfold bufLen; split <;> (try split) <;> omega
/-- A writer that takes all that it is given: T v its interface value, fW its Write, recv what that is called upon; D: what it holds behind so many bytes. -/
structure Taker (T : TypeId) (v : Value) (fW : FuncId) (recv : Value) (base g s B : Nat) (xs : List Int) (D : Nat → World → Prop) : Prop where
  ta : ∀ w : World, (Instr.typeAssert (.iface T v) 60 84 true).run Tryd.prog w = .ok (.tuple #[.nilIface, .bool false]) w
  na : ∀ w : World, (nilAhead 212 T v "Write").run Tryd.prog w = .ok (some false) w
  mw : ∀ w : World, (method 212 T v "Write").run Tryd.prog w = .ok (fW, recv) w
  cf : ∀ (x : Value) (w : World), (callFunc fW #[recv, x]).run Tryd.prog w = .ok (.enter fW #[recv, x]) w
  keep : ∀ (k : Nat) (w w' : World), D k w → Chg (fun b => b = g ∨ b = s ∨ b = B) w w' → D k w'
  write : ∀ (k j c : Nat) (w : World), D k w → 1 ≤ j → k + j ≤ xs.length → Rb w (some ⟨B, 0, none⟩) ((xs.drop k).take j) → Calls Tryd.prog fW #[recv, .slice (some ⟨B, 0, none⟩) j c] w fun e w' =>
    e = .returned (.tuple #[.int .i64 j, .nilIface]) ∧ D (k + j) w' ∧ ∃ S : Nat → Prop, Chg S w w' ∧ ¬ S g ∧ ¬ S s ∧ ¬ S B ∧ (∀ b, b < base → ¬ S b)
/-- The loop's state behind k bytes. -/
def CInv (base g s B m n : Nat) (xs : List Int) (sp : Int) (D : Nat → World → Prop) (k : Nat) (w w' : World) : Prop :=
  k ≤ n ∧ k ≤ xs.length ∧ Lim w' g s (n - k) ∧ Src w' base s (xs.drop k) sp ∧ (∃ zs, m = zs.length ∧ Own w' base 5 .u8 (.slice (some ⟨B, 0, none⟩) m m) zs) ∧ D k w' ∧ Chg (fun b => base ≤ b) w w'
set_option maxRecDepth 100000 in
set_option maxHeartbeats 2000000 in
theorem copyBuffer_any (T : TypeId) (v : Value) (fW : FuncId) (recv : Value) (base g s n : Nat) (xs : List Int) (sp : Int) (D : Nat → World → Prop) (w : World) (a0 a1 : Addr) (hS : Sent w a0 a1) (hB : 0 < base ∧ 1 < base ∧ a0.block < base ∧ a1.block < base)
    (hT : Taker T v fW recv base g s w.heap.size xs D) (hD : ∀ w', Chg NoB w w' → D 0 w') (hl : Lim w g s n) (hs : Src w base s xs sp) (hn : n ≤ 1048576) (hx : xs.length ≤ 2097152) (hgs : g ≠ s) (hbg : base ≤ g) (hbs : base ≤ s) :
    Calls Tryd.prog 20 #[.iface T v, .iface 76 (.pointer (some ⟨g, 0, none⟩)), .slice none 0 0] w fun e w' => e = .returned (.tuple #[.int .i64 (min n xs.length : Nat), .nilIface]) ∧ D (min n xs.length) w' ∧ Src w' base s (xs.drop (min n xs.length)) sp ∧ Chg (fun b => base ≤ b) w w' := by
  have t1 := ta_wt ⟨g, 0, none⟩
  have t2 := ta_lr ⟨g, 0, none⟩
  have t3 := hT.ta
  have c1 := hl.cell 1
  simp only [List.getElem?_cons_zero, List.getElem?_cons_succ] at c1
  have hglt := hl.lt
  have hslt : s < w.heap.size := by obtain ⟨_, _, hb, _⟩ := hs; exact hb.lt
  have hbB : base ≤ w.heap.size := by omega
  have HT := As.mk hT
  have HD := As.mk hD
  have HL := As.mk hl
  have HS := As.mk hs
  have HSE := As.mk hS
  have HGB := As.mk hB
  clear hT hD hl hs hS hB
  obtain ⟨m, hm⟩ : ∃ m, m = bufLen n := ⟨_, rfl⟩
  have hm1 := bufLen_pos n
  rw [← hm] at hm1
  have HM : As (m = bufLen n) := ⟨hm⟩
  clear hm
  have nq := nilEqB
  go_enter Tryd.func20, Tryd.ntmps20
  go_upto_if 56 with fail
  go_cut [12] (fun q wx => q = .int .i64 m ∧ wx = w)
  case first =>
    by_cases h0 : n < 1
    · have hn0 : n = 0 := by omega
      subst hn0
      have hm2 : m = 1 := HM.out
      subst hm2
      go_upto_region 14 with fail
      go_meet
      exact ⟨rfl, rfl⟩
    · obtain ⟨bq, hbq⟩ : ∃ bq, bq = decide ((n : Int) < 32768) := ⟨_, rfl⟩
      simp only [← hbq]
      cases bq with
      | true =>
        have hbq' : n < 32768 := by have := of_decide_eq_true hbq.symm; omega
        have hm2 : (m : Int) = n := by rw [HM.out]; unfold bufLen; rw [if_neg h0, if_pos hbq']
        have x2 : (1 : Int) ≤ (n : Int) := by omega
        have HM2 := As.mk hm2
        clear HM hm1 hbq hbq' hm2 h0
        go_upto_region 14 with fail
        go_meet
        exact ⟨by rw [HM2.out], rfl⟩
      | false =>
        have hbq' : ¬ n < 32768 := by have := of_decide_eq_false hbq.symm; omega
        have hm2 : m = 32768 := by rw [HM.out]; unfold bufLen; rw [if_neg h0, if_neg hbq']
        have HM2 := As.mk hm2
        clear HM hm1 hbq hbq' hm2 h0
        go_upto_region 14 with fail
        go_meet
        exact ⟨by rw [HM2.out]; rfl, rfl⟩
  case rest =>
    have hw12 := hcut.1
    have hww := hcut.2
    subst hw12
    subst hww
    go_wp2_with ((with_reducible refine gate (N := 67) rfl ?_); refine wpList_make_k rfl _ 23 rfl 5 .u8 1 Tryd.underlying23 info8 (by decide) m _ rfl rfl (by omega) ?_; intro w1 B HB1 ho1 hc1 hz1; have HO1 := As.mk ho1; have HC1 := As.mk hc1; clear ho1 hc1 hz1)
    have hBg : B ≠ g := by rw [HB1.out]; omega
    have hBs : B ≠ s := by rw [HB1.out]; omega
    have HT2 : As (Taker T v fW recv base g s B xs D) := ⟨by rw [HB1.out]; exact HT.out⟩
    have hBb : base ≤ B := by rw [HB1.out]; exact hbB
    have HI0 : As (CInv base g s B m n xs sp D 0 wc w1) := ⟨Nat.zero_le _, Nat.zero_le _, HL.out.chg HC1.out (fun e => e), by simpa using HS.out.keep HC1.out, ⟨_, by simp, own_lower HO1.out hbB⟩, HD.out _ HC1.out, HC1.out.mono (fun _ _ e => e.elim)⟩
    clear HO1 HC1 HB1 HT HD HL HS c1 t1 t2 t3 nq hglt hslt hbB HM
    have t4 := HT2.out.na
    have t5 := HT2.out.mw
    have t6 := HT2.out.cf
    have nl := nil_aheadL ⟨g, 0, none⟩
    have ml := method_readL ⟨g, 0, none⟩
    have pq := ptrSameN a0
    go_loopw [6, 7, 15, 16, 17, 18] (fun wn er _ _ _ _ w' => ∃ k : Nat, wn = .int .i64 k ∧ er = .nilIface ∧ As (CInv base g s B m n xs sp D k wc w')) (fun wn _ _ _ _ _ _ => n - (intOf wn).toNat)
    case atStart => exact ⟨0, rfl, rfl, HI0⟩
    case round =>
      clear HI0
      obtain ⟨k, rfl, rfl, HI⟩ := hrel
      obtain ⟨hk, hkx, hlim, hsrc, ⟨zs, hzl, hown⟩, hD, hchg⟩ := HI.out
      have HLI := As.mk hlim
      have HSR := As.mk hsrc
      have HOW := As.mk hown
      have HDD := As.mk hD
      have HCH := As.mk hchg
      have HZL := As.mk hzl
      have hsent : Sent wr a0 a1 := HSE.out.chg HGB.out hchg (fun i hi e => by omega)
      have HSE2 := As.mk hsent
      clear hlim hsrc hown hD hchg hzl HI
      have HEND : As (∀ w2, (k = n ∨ k = xs.length) → Chg (fun b => b = g) wr w2 → k = min n xs.length ∧ D k w2 ∧ Src w2 base s (xs.drop k) sp ∧ Chg (fun b => base ≤ b) wc w2) := ⟨fun w2 h hc => ⟨by omega, HT2.out.keep _ _ _ HDD.out (hc.mono (fun _ _ e => Or.inl e)), HSR.out.chg hc (fun e => hgs e.symm) (fun b hb e => by omega), HCH.out.trans hc (fun i _ e => by omega)⟩⟩
      by_cases hkn : k = n
      · have hl0 : n - k = 0 := by omega
        rw [hl0] at HLI
        have HE := As.mk (HEND.out · (.inl hkn))
        clear hl0 hkn
        go_wp2_with fail
        refine (limRead_out base g s m m _ (xs.drop k) sp _ a0 a1 HSE2.out HLI.out HSR.out).mono ?_
        rintro e w2 ⟨rfl, hl2, hs2, hc2⟩
        have HE2 := As.mk (HE.out w2 hc2)
        have g0 := (HSE2.out.chg HGB.out hc2 (fun i hi e => by omega)).1
        clear hl2 hs2 hc2
        go_wp2_with fail
        go_ret2
        have h := HE2.out
        rw [← h.1]
        exact ⟨rfl, h.2.1, h.2.2.1, h.2.2.2⟩
      · by_cases hkx2 : k = xs.length
        · have hnil : xs.drop k = [] := List.drop_of_length_le (by omega)
          have HSR0 : As (Src wr base s [] sp) := ⟨by have := HSR.out; rwa [hnil] at this⟩
          have HE := As.mk (HEND.out · (.inr hkx2))
          have hnk : 0 < n - k := by omega
          clear hnil hkn hkx2
          go_wp2_with fail
          refine (limRead_dry base g s B m (n - k) sp _ a0 a1 HSE2.out HLI.out hnk (by omega) HSR0.out (by omega) hgs hbg (by omega)).mono ?_
          rintro e w2 ⟨rfl, hl2, hs2, hc2⟩
          have HE2 := As.mk (HE.out w2 hc2)
          have g0 := (HSE2.out.chg HGB.out hc2 (fun i hi e => by omega)).1
          clear hl2 hs2 hc2
          go_wp2_with fail
          go_ret2
          have h := HE2.out
          rw [← h.1]
          exact ⟨rfl, h.2.1, h.2.2.1, h.2.2.2⟩
        · have hnk : 0 < n - k := by omega
          have HXK : As (k < xs.length) := ⟨by omega⟩
          clear hkx2 hkn HEND
          go_wp2_with fail
          refine (limRead_some base g s B m (n - k) (xs.drop k) zs sp _ HLI.out hnk (by omega) HSR.out HOW.out HZL.out (by omega) (by rw [List.length_drop]; have := HXK.out; omega) (by rw [List.length_drop]; omega) hgs (fun e => hBg e.symm) (fun e => hBs e.symm) hbg hbs (by omega)).mono ?_
          rintro e w2 ⟨j, h1, h2, h3, h4, rfl, hl2, hs2, ho2, hc2⟩
          have HJ := As.mk h4
          have hjl : (splice zs 0 ((xs.drop k).take j)).length = m := by
            rw [HZL.out]
            exact length_splice _ _ _ (by rw [List.length_take]; have := HZL.out; omega)
          have HL2 := As.mk hl2
          have HS2 := As.mk hs2
          have HO2 := As.mk ho2
          have HC2 := As.mk hc2
          have HJL := As.mk hjl
          have HR2 : As (Rb w2 (some ⟨B, 0, none⟩) ((xs.drop k).take j)) := ⟨by
            have h := (own_reads ho2).take_ j
            have e : (splice zs 0 ((xs.drop k).take j)).take j = (xs.drop k).take j := by
              unfold splice
              rw [List.take_zero, List.nil_append]
              have hlj : ((xs.drop k).take j).length = j := by rw [List.length_take]; omega
              have := List.take_left' (l₂ := zs.drop (0 + ((xs.drop k).take j).length)) hlj
              exact this
            rwa [e] at h⟩
          have HWC : As (∀ w0, Chg NoB w2 w0 → Calls Tryd.prog fW #[recv, .slice (some ⟨B, 0, none⟩) j m] w0 fun e w' => e = .returned (.tuple #[.int .i64 j, .nilIface]) ∧ D (k + j) w' ∧ ∃ S : Nat → Prop, Chg S w0 w' ∧ ¬ S g ∧ ¬ S s ∧ ¬ S B ∧ (∀ b, b < base → ¬ S b)) := ⟨fun w0 h0 =>
            HT2.out.write k j m w0 (HT2.out.keep _ _ _ HDD.out (HC2.out.trans h0 (fun _ _ e => e.elim) |>.mono (fun _ _ e => e))) h1 (by rw [List.length_drop] at h4; have := HXK.out; omega) (HR2.out.keep h0)⟩
          have e1 : IntKind.i64.wrap (j : Int) = j := by rw [IntKind.wrap_i64]; omega
          have hjz : (0 : Int) < (j : Int) := by omega
          have hjm : (j : Int) ≤ (m : Int) := by omega
          clear h4 hl2 hs2 ho2 hc2 hjl HR2
          go_wp2_with fail
          go_region_law (first
            | (go_simp
               refine (HWC.out _ ?hc0).mono ?_
               case hc0 => repeat (first | exact Chg.refl _ _ | (with_reducible apply Chg.drew) | (with_reducible apply Chg.alloc))
               rintro e3 w3 ⟨rfl, hd3, S3, hc3, n1, n2, n3, n4⟩
               have HD3 := As.mk hd3
               have HC3 : As (Chg S3 w2 w3 ∧ ¬ S3 g ∧ ¬ S3 s ∧ ¬ S3 B ∧ ∀ b, b < base → ¬ S3 b) := ⟨Chg.trans (S := S3) (by repeat (first | exact Chg.refl _ _ | (with_reducible apply Chg.drew) | (with_reducible apply Chg.alloc))) hc3 (fun _ _ e => e), n1, n2, n3, n4⟩
               clear hd3 hc3 n1 n2 n3 n4))
          all_goals
            have e2 : IntKind.i64.wrap ((k : Int) + (j : Int)) = ((k + j : Nat) : Int) := by rw [IntKind.wrap_i64]; omega
            have hj0 : ¬ ((j : Int) < 0) := by omega
            have HI3 : As (CInv base g s B m n xs sp D (k + j) wc w3) := ⟨by
              obtain ⟨hc3, n1, n2, n3, n4⟩ := HC3.out
              refine ⟨by omega, by have := HJ.out; rw [List.length_drop] at this; have := HXK.out; omega, ?_, ?_, ⟨_, HJL.out.symm, own_chg HO2.out hc3 (fun b hb e => ?_)⟩, HD3.out, ?_⟩
              · have := HL2.out.chg hc3 n1; rw [show n - (k + j) = n - k - j from by omega]; exact this
              · have := HS2.out.chg hc3 n2 n4; rwa [List.drop_drop] at this
              · simp [Value.ownBlock] at hb; subst hb; exact n3 e
              · exact (HCH.out.trans HC2.out (fun i _ e => by rcases e with e | e | e <;> omega)).trans hc3 (fun i hi e => Nat.le_of_not_lt (fun h => n4 i h e))⟩
            clear HC3 HD3 HJ
            go_wp2_with fail
            go_roundw
            case rel => exact ⟨k + j, by simp, rfl, HI3⟩
            case measure => show n - ((k + j : Nat) : Int).toNat < n - (k : Int).toNat; omega
end Go.Proofs.YtalbaapbiopamaaDoor
