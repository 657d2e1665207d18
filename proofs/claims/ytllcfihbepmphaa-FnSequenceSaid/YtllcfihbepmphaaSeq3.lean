/- The contract of the sequence verifier's Next. (Printed by wip/seq3.py.) -/
import Derived.Test.YtllcfihbepmphaaSeq2
set_option linter.unusedVariables false
set_option linter.unusedSimpArgs false
namespace Go.Proofs.Ytllcfihbepmphaa
open Go.RowKit V
/-- What Next leaves. -/
def NextPost (w : World) (base g : Nat) (st : List Int) (q : Int) (r : Option (Int × List Int)) (e : Ending) (w' : World) : Prop :=
  Chg (fun b => b = g ∨ base ≤ b) w w' ∧ match r with
  | none => (∃ s, e = .returned (.iface 178 (.string s))) ∧ Ver w' base g NoB st q
  | some (q', ps) => e = .returned .nilIface ∧ Ver w' base g NoB (st ++ ps) q'
set_option maxRecDepth 100000 in
set_option maxHeartbeats 1000000 in
theorem next_err_open (base g : Nat) (st : List Int) (x s : Int) (w : World) (hv : Ver w base g NoB (st ++ [s]) 0) (hb : base ≤ w.heap.size) (hl : st.length ≤ 1048570)
    (hT : ∀ w, Calls Try.prog 46 #[.int .u8 x, .int .i8 s] w (Trans w none)) :
    Calls Try.prog 21 #[.pointer (some ⟨g, 0, none⟩), .int .u8 x] w (NextPost w base g st 0 none) := by
  have HV := As.mk hv
  have HT := As.mk hT
  clear hv hT
  go_enter Try.func21, Try.ntmps21
  go_wp2_with fail
  go_loopw [4, 5, 6, 7, 8, 9, 10, 12] (fun _ _ _ _ _ _ _ _ w' => w' = w) (fun _ _ _ _ _ _ _ _ _ => 0)
  case atStart => trivial
  case round =>
    have hw := hrel
    subst hw
    go_wp2_with fail
    refine (pop_any base g NoB st s 0 _ HV.out (by omega)).mono ?_
    rintro e w1 ⟨rfl, hv1, hc1⟩
    have HV1 := As.mk hv1
    have HC1 := As.mk hc1
    obtain ⟨v1, hb1, _, _⟩ := hv1
    have c1 := hb1.cell 1
    simp only [List.getElem?_cons_zero, List.getElem?_cons_succ] at c1
    clear hb1 hc1
    go_wp2_with fail
    refine (getTransition_open _).mono ?_
    rintro e w2 ⟨rfl, rfl⟩
    go_wp2_with fail
    refine (HT.out _).mono ?_
    rintro e w3 ⟨⟨s3, rfl⟩, hc3⟩
    have HC3 : As (Chg (fun b => b = g ∨ base ≤ b) _ w3) := ⟨(HC1.out.mono (fun i _ e => Or.inl e)).trans hc3 (fun _ _ e => e.elim)⟩
    have HV3 := As.mk (HV1.out.chg hc3)
    clear hc3
    go_wp2_with fail
    go_ret
    exact ⟨HC3.out, ⟨_, rfl⟩, HV3.out⟩
set_option maxRecDepth 100000 in
set_option maxHeartbeats 1000000 in
theorem next_ok_open (base g : Nat) (st ps : List Int) (x s q' : Int) (w : World) (hv : Ver w base g NoB (st ++ [s]) 0) (hb : base ≤ w.heap.size) (hl : st.length ≤ 1048570) (hps : ps.length ≤ 4)
    (hT : ∀ w, Calls Try.prog 46 #[.int .u8 x, .int .i8 s] w (Trans w (some (q', ps)))) :
    Calls Try.prog 21 #[.pointer (some ⟨g, 0, none⟩), .int .u8 x] w (NextPost w base g st 0 (some (q', ps))) := by
  have HV := As.mk hv
  have HT := As.mk hT
  have HLS := As.mk hl
  clear hv hT hl
  go_enter Try.func21, Try.ntmps21
  go_wp2_with fail
  go_loopw [4, 5, 6, 7, 8, 9, 10, 12] (fun _ _ _ _ _ _ _ _ w' => w' = w) (fun _ _ _ _ _ _ _ _ _ => 0)
  case atStart => trivial
  case round =>
    have hw := hrel
    subst hw
    go_wp2_with fail
    refine (pop_any base g NoB st s 0 _ HV.out (by have := HLS.out; omega)).mono ?_
    rintro e w1 ⟨rfl, hv1, hc1⟩
    have HV1 := As.mk hv1
    have HC1 := As.mk hc1
    obtain ⟨v1, hb1, _, _⟩ := hv1
    have c1 := hb1.cell 1
    simp only [List.getElem?_cons_zero, List.getElem?_cons_succ] at c1
    have hgl := hb1.lt
    clear hb1 hc1
    go_wp2_with fail
    refine (getTransition_open _).mono ?_
    rintro e w2 ⟨rfl, rfl⟩
    go_wp2_with fail
    refine (HT.out _).mono ?_
    rintro e w3 ⟨A3, cc3, rfl, hr3, ha3, hc3⟩
    have HC3 : As (Chg (fun b => b = g ∨ base ≤ b) _ w3) := ⟨(HC1.out.mono (fun i _ e => Or.inl e)).trans hc3 (fun _ _ e => e.elim)⟩
    have hb3 : base ≤ w3.heap.size := Nat.le_trans hb HC3.out.size
    obtain ⟨PB, hPB⟩ : ∃ PB : Nat → Prop, PB = fun b => w2.heap.size ≤ b ∧ b < w3.heap.size := ⟨_, rfl⟩
    have HPB := As.mk hPB
    have HV3 : As (Ver w3 base g PB st 0) := ⟨by
      obtain ⟨v, h1, h2, h3⟩ := HV1.out
      refine ⟨v, h1.chg hc3 (fun e => e), own_keep h2 hc3, fun b hb => ⟨fun hP => ?_, (h3 b hb).2⟩⟩
      rw [hPB] at hP
      have := (own_block_lt h2 b hb).2
      have := hP.1
      omega⟩
    have HR3 := As.mk hr3
    have HA3 : As (∀ ad, A3 = some ad → 0 < ps.length → PB ad.block ∧ ad.block ≠ g) := ⟨fun ad e h0 => by
      obtain ⟨ad2, e2, hlt, _⟩ := hr3.2 h0
      rw [e] at e2
      injection e2 with e2
      subst e2
      have := ha3 ad e
      refine ⟨by rw [hPB]; exact ⟨this, hlt⟩, by omega⟩⟩
    clear hc3 hr3 ha3 hPB c1
    obtain ⟨m, hm⟩ : ∃ m, m = ps.length := ⟨_, rfl⟩
    rw [← hm]
    rw [← hm] at hps
    have HM := As.mk hm
    clear hm
    go_wp2_with fail
    go_loopw [12, 38] (fun _ i w' => ∃ k : Nat, k ≤ m ∧ i = .int .i64 k ∧ As (Ver w' base g PB (st ++ ps.take k) 0) ∧ As (Chg (fun b => b = g ∨ (base ≤ b ∧ ¬ PB b)) w3 w')) (fun _ i _ => m - (intOf i).toNat)
    case atStart => exact ⟨0, Nat.zero_le _, rfl, ⟨by simpa using HV3.out⟩, ⟨Chg.refl _ _⟩⟩
    case round =>
      obtain ⟨k, hk, rfl, HVk, HCk⟩ := hrel
      by_cases hlt : k < m
      · have hRk : Rk .i8 wr A3 ps := HR3.out.chg HCk.out (fun ad e _ h => by
          have := HA3.out ad e (by have := HM.out; omega)
          rcases h with h | h
          · exact this.2 h
          · exact h.2 this.1)
        obtain ⟨a0, hA, hc0⟩ := hRk.at_ (k : Int) (by omega) (by have := HM.out; omega)
        subst hA
        simp only [Int.toNat_natCast] at hc0
        have hbs : base ≤ wr.heap.size := Nat.le_trans hb3 HCk.out.size
        have hPs : As (∀ b, PB b → b < wr.heap.size) := ⟨fun b hP => by rw [HPB.out] at hP; exact Nat.lt_of_lt_of_le hP.2 HCk.out.size⟩
        have hlk : (st ++ ps.take k).length ≤ 1048576 := by rw [List.length_append, List.length_take]; have := HLS.out; omega
        have HLK := As.mk hlk
        have HT2 : As (ps.take (k + 1) = ps.take k ++ [rd ps (k : Int)]) := ⟨take_snoc (by have := HM.out; omega)⟩
        clear hlk hRk
        go_wp2_with fail
        refine (push_any base g PB (st ++ ps.take k) (rd ps (k : Int)) 0 _ HVk.out hbs hPs.out HLK.out).mono ?_
        rintro e w4 ⟨⟨r4, rfl⟩, hv4, hc4⟩
        have HV4 : As (Ver w4 base g PB (st ++ ps.take (k + 1)) 0) := ⟨by rw [HT2.out, ← List.append_assoc]; exact hv4⟩
        have HC4 := As.mk (HCk.out.trans hc4 (fun _ _ e => e))
        clear hv4 hc4 HT2 hc0
        go_wp2_with fail
        go_roundw
        case rel => exact ⟨k + 1, by omega, by go_num, HV4, HC4⟩
        case measure => simp [intOf]; omega
      · obtain rfl : k = m := by omega
        have HVe := HVk.out
        rw [show ps.take k = ps from by rw [HM.out]; exact List.take_length] at HVe
        obtain ⟨v5, hb5, ho5, hp5⟩ := HVe
        have c5 := hb5.cell 1
        have f5 := hb5.frozen 1
        simp only [List.getElem?_cons_zero, List.getElem?_cons_succ] at c5
        have HB5 := As.mk hb5
        have HO5 := As.mk ho5
        have HP5 := As.mk hp5
        clear hb5 ho5 hp5
        go_wp2_with fail
        go_ret
        have hcs : Chg (fun b => b = g) wr (wr.setCell ⟨g, 1, none⟩ (.int .i8 q')) := (Chg.refl _ wr).setCell (p := ⟨g, 1, none⟩) _ (fun _ => rfl)
        refine ⟨?_, rfl, v5, HB5.out.set_ 1 _, own_chg HO5.out hcs (fun b hb e => (HP5.out b hb).2 e), fun b hb => ⟨fun e => e, (HP5.out b hb).2⟩⟩
        exact (HC3.out.trans HCk.out (fun i _ e => by rcases e with e | e; exact Or.inl e; exact Or.inr e.1)).trans hcs (fun i _ e => Or.inl e)
set_option maxRecDepth 100000 in
set_option maxHeartbeats 1000000 in
theorem next_err_lit (base g : Nat) (st : List Int) (x s : Int) (w : World) (hv : Ver w base g NoB (st ++ [s]) 2) (hb : base ≤ w.heap.size) (hl : st.length ≤ 1048570)
    (hT : ∀ w, Calls Try.prog 47 #[.int .u8 x, .int .i8 s] w (Trans w none)) :
    Calls Try.prog 21 #[.pointer (some ⟨g, 0, none⟩), .int .u8 x] w (NextPost w base g st 2 none) := by
  have HV := As.mk hv
  have HT := As.mk hT
  clear hv hT
  go_enter Try.func21, Try.ntmps21
  go_wp2_with fail
  go_loopw [4, 5, 6, 7, 8, 9, 10, 12] (fun _ _ _ _ _ _ _ _ w' => w' = w) (fun _ _ _ _ _ _ _ _ _ => 0)
  case atStart => trivial
  case round =>
    have hw := hrel
    subst hw
    go_wp2_with fail
    refine (pop_any base g NoB st s 2 _ HV.out (by omega)).mono ?_
    rintro e w1 ⟨rfl, hv1, hc1⟩
    have HV1 := As.mk hv1
    have HC1 := As.mk hc1
    obtain ⟨v1, hb1, _, _⟩ := hv1
    have c1 := hb1.cell 1
    simp only [List.getElem?_cons_zero, List.getElem?_cons_succ] at c1
    clear hb1 hc1
    go_wp2_with fail
    refine (getTransition_lit _).mono ?_
    rintro e w2 ⟨rfl, rfl⟩
    go_wp2_with fail
    refine (HT.out _).mono ?_
    rintro e w3 ⟨⟨s3, rfl⟩, hc3⟩
    have HC3 : As (Chg (fun b => b = g ∨ base ≤ b) _ w3) := ⟨(HC1.out.mono (fun i _ e => Or.inl e)).trans hc3 (fun _ _ e => e.elim)⟩
    have HV3 := As.mk (HV1.out.chg hc3)
    clear hc3
    go_wp2_with fail
    go_ret
    exact ⟨HC3.out, ⟨_, rfl⟩, HV3.out⟩
set_option maxRecDepth 100000 in
set_option maxHeartbeats 1000000 in
theorem next_ok_lit (base g : Nat) (st ps : List Int) (x s q' : Int) (w : World) (hv : Ver w base g NoB (st ++ [s]) 2) (hb : base ≤ w.heap.size) (hl : st.length ≤ 1048570) (hps : ps.length ≤ 4)
    (hT : ∀ w, Calls Try.prog 47 #[.int .u8 x, .int .i8 s] w (Trans w (some (q', ps)))) :
    Calls Try.prog 21 #[.pointer (some ⟨g, 0, none⟩), .int .u8 x] w (NextPost w base g st 2 (some (q', ps))) := by
  have HV := As.mk hv
  have HT := As.mk hT
  have HLS := As.mk hl
  clear hv hT hl
  go_enter Try.func21, Try.ntmps21
  go_wp2_with fail
  go_loopw [4, 5, 6, 7, 8, 9, 10, 12] (fun _ _ _ _ _ _ _ _ w' => w' = w) (fun _ _ _ _ _ _ _ _ _ => 0)
  case atStart => trivial
  case round =>
    have hw := hrel
    subst hw
    go_wp2_with fail
    refine (pop_any base g NoB st s 2 _ HV.out (by have := HLS.out; omega)).mono ?_
    rintro e w1 ⟨rfl, hv1, hc1⟩
    have HV1 := As.mk hv1
    have HC1 := As.mk hc1
    obtain ⟨v1, hb1, _, _⟩ := hv1
    have c1 := hb1.cell 1
    simp only [List.getElem?_cons_zero, List.getElem?_cons_succ] at c1
    have hgl := hb1.lt
    clear hb1 hc1
    go_wp2_with fail
    refine (getTransition_lit _).mono ?_
    rintro e w2 ⟨rfl, rfl⟩
    go_wp2_with fail
    refine (HT.out _).mono ?_
    rintro e w3 ⟨A3, cc3, rfl, hr3, ha3, hc3⟩
    have HC3 : As (Chg (fun b => b = g ∨ base ≤ b) _ w3) := ⟨(HC1.out.mono (fun i _ e => Or.inl e)).trans hc3 (fun _ _ e => e.elim)⟩
    have hb3 : base ≤ w3.heap.size := Nat.le_trans hb HC3.out.size
    obtain ⟨PB, hPB⟩ : ∃ PB : Nat → Prop, PB = fun b => w2.heap.size ≤ b ∧ b < w3.heap.size := ⟨_, rfl⟩
    have HPB := As.mk hPB
    have HV3 : As (Ver w3 base g PB st 2) := ⟨by
      obtain ⟨v, h1, h2, h3⟩ := HV1.out
      refine ⟨v, h1.chg hc3 (fun e => e), own_keep h2 hc3, fun b hb => ⟨fun hP => ?_, (h3 b hb).2⟩⟩
      rw [hPB] at hP
      have := (own_block_lt h2 b hb).2
      have := hP.1
      omega⟩
    have HR3 := As.mk hr3
    have HA3 : As (∀ ad, A3 = some ad → 0 < ps.length → PB ad.block ∧ ad.block ≠ g) := ⟨fun ad e h0 => by
      obtain ⟨ad2, e2, hlt, _⟩ := hr3.2 h0
      rw [e] at e2
      injection e2 with e2
      subst e2
      have := ha3 ad e
      refine ⟨by rw [hPB]; exact ⟨this, hlt⟩, by omega⟩⟩
    clear hc3 hr3 ha3 hPB c1
    obtain ⟨m, hm⟩ : ∃ m, m = ps.length := ⟨_, rfl⟩
    rw [← hm]
    rw [← hm] at hps
    have HM := As.mk hm
    clear hm
    go_wp2_with fail
    go_loopw [12, 38] (fun _ i w' => ∃ k : Nat, k ≤ m ∧ i = .int .i64 k ∧ As (Ver w' base g PB (st ++ ps.take k) 2) ∧ As (Chg (fun b => b = g ∨ (base ≤ b ∧ ¬ PB b)) w3 w')) (fun _ i _ => m - (intOf i).toNat)
    case atStart => exact ⟨0, Nat.zero_le _, rfl, ⟨by simpa using HV3.out⟩, ⟨Chg.refl _ _⟩⟩
    case round =>
      obtain ⟨k, hk, rfl, HVk, HCk⟩ := hrel
      by_cases hlt : k < m
      · have hRk : Rk .i8 wr A3 ps := HR3.out.chg HCk.out (fun ad e _ h => by
          have := HA3.out ad e (by have := HM.out; omega)
          rcases h with h | h
          · exact this.2 h
          · exact h.2 this.1)
        obtain ⟨a0, hA, hc0⟩ := hRk.at_ (k : Int) (by omega) (by have := HM.out; omega)
        subst hA
        simp only [Int.toNat_natCast] at hc0
        have hbs : base ≤ wr.heap.size := Nat.le_trans hb3 HCk.out.size
        have hPs : As (∀ b, PB b → b < wr.heap.size) := ⟨fun b hP => by rw [HPB.out] at hP; exact Nat.lt_of_lt_of_le hP.2 HCk.out.size⟩
        have hlk : (st ++ ps.take k).length ≤ 1048576 := by rw [List.length_append, List.length_take]; have := HLS.out; omega
        have HLK := As.mk hlk
        have HT2 : As (ps.take (k + 1) = ps.take k ++ [rd ps (k : Int)]) := ⟨take_snoc (by have := HM.out; omega)⟩
        clear hlk hRk
        go_wp2_with fail
        refine (push_any base g PB (st ++ ps.take k) (rd ps (k : Int)) 2 _ HVk.out hbs hPs.out HLK.out).mono ?_
        rintro e w4 ⟨⟨r4, rfl⟩, hv4, hc4⟩
        have HV4 : As (Ver w4 base g PB (st ++ ps.take (k + 1)) 2) := ⟨by rw [HT2.out, ← List.append_assoc]; exact hv4⟩
        have HC4 := As.mk (HCk.out.trans hc4 (fun _ _ e => e))
        clear hv4 hc4 HT2 hc0
        go_wp2_with fail
        go_roundw
        case rel => exact ⟨k + 1, by omega, by go_num, HV4, HC4⟩
        case measure => simp [intOf]; omega
      · obtain rfl : k = m := by omega
        have HVe := HVk.out
        rw [show ps.take k = ps from by rw [HM.out]; exact List.take_length] at HVe
        obtain ⟨v5, hb5, ho5, hp5⟩ := HVe
        have c5 := hb5.cell 1
        have f5 := hb5.frozen 1
        simp only [List.getElem?_cons_zero, List.getElem?_cons_succ] at c5
        have HB5 := As.mk hb5
        have HO5 := As.mk ho5
        have HP5 := As.mk hp5
        clear hb5 ho5 hp5
        go_wp2_with fail
        go_ret
        have hcs : Chg (fun b => b = g) wr (wr.setCell ⟨g, 1, none⟩ (.int .i8 q')) := (Chg.refl _ wr).setCell (p := ⟨g, 1, none⟩) _ (fun _ => rfl)
        refine ⟨?_, rfl, v5, HB5.out.set_ 1 _, own_chg HO5.out hcs (fun b hb e => (HP5.out b hb).2 e), fun b hb => ⟨fun e => e, (HP5.out b hb).2⟩⟩
        exact (HC3.out.trans HCk.out (fun i _ e => by rcases e with e | e; exact Or.inl e; exact Or.inr e.1)).trans hcs (fun i _ e => Or.inl e)
end Go.Proofs.Ytllcfihbepmphaa
