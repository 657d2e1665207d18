/- The contract of (*impl.source).Read where there is something to read. (Printed by a small program out of one pattern.) -/
import Derived.Test.YtalbaapbiopamaaDoorSource
set_option linter.unusedVariables false
set_option linter.unusedSimpArgs false
namespace Go.Proofs.YtalbaapbiopamaaDoor
open Go.RowKit V
set_option maxRecDepth 100000 in
set_option maxHeartbeats 2000000 in
theorem sourceRead_cut (et : TypeId) (base s gb cap off n c : Nat) (xs zs : List Int) (sp : Int) (w : World) (hs : Src w base s xs sp) (ho : Own w base et .u8 (.slice (some ⟨gb, 0, none⟩) zs.length cap) zs) (hne : s ≠ gb) (hbs : base ≤ s) (hn : 0 < n) (hoff : off + n ≤ zs.length) (hnc : n ≤ c) (hx : 0 < xs.length) (hxl : xs.length ≤ 2097152) (hzl : zs.length ≤ 1048576) (hsp : 0 < sp) (hsp2 : sp < (n : Int)) :
    Calls Tryd.prog 36 #[.pointer (some ⟨s, 0, none⟩), .slice (some ⟨gb, off, none⟩) n c] w (GotSome et w base s gb cap off n xs zs sp) := by
  obtain ⟨A, c1, hb, hl, hr, ha⟩ := hs
  obtain ⟨ad, hA, _⟩ := hr.at_ 0 (by omega) (by omega)
  subst hA
  have hab := ha ad rfl hx
  have hgb := (own_blocks ho).1
  obtain ⟨m, hm⟩ : ∃ m, m = xs.length := ⟨_, rfl⟩
  have HM := As.mk hm
  rw [← hm] at hb hl hx hxl
  have s0 := hb.cell 0
  have s1 := hb.cell 1
  have sf := hb.frozen 0
  simp only [List.getElem?_cons_zero, List.getElem?_cons_succ] at s0 s1
  have HB := As.mk hb
  have HR := As.mk hr
  have HO := As.mk ho
  have HOFF := As.mk hoff
  have hnz : ((n : Int) == 0) = false := by simp; omega
  have hmz : ((m : Int) == 0) = false := by simp; omega
  obtain ⟨q, hq⟩ : ∃ q : Nat, (q : Int) = sp := ⟨sp.toNat, by omega⟩
  have hcp := cut_to (P := Tryd.prog) 23 5 Tryd.underlying23 size8 (some ⟨gb, off, none⟩) n c sp .i64 q hq (by omega)
  have HQ : As (off + q ≤ zs.length) := ⟨by omega⟩
  obtain ⟨k, hk⟩ : ∃ k, k = min m q := ⟨_, rfl⟩
  have HK1 : As (1 ≤ k ∧ k ≤ n ∧ k ≤ m ∧ k ≤ q) := ⟨by omega⟩
  have hcut : ∃ A', (∀ W : World, (Instr.slice 23 (.slice (some ad) m c1) (some (.int .i64 (k : Int))) none none).run Tryd.prog W = .ok (.slice A' (m - k) (c1 - k)) W) ∧ (0 < m - k → A' = some (ad.add k)) ∧ ∀ (w : World), Rb w (some ad) xs → Rb w A' (xs.drop k) := by
    obtain ⟨A', h1, h2, h3⟩ := cut_from (P := Tryd.prog) 23 5 Tryd.underlying23 size8 (some ad) m c1 (k : Int) .i64 (m - k) (c1 - k) (by omega) (by omega) (by omega) hl
    exact ⟨A', h1, fun h => by have := h2 h; rwa [Int.toNat_natCast] at this, fun w h => by have := h3 w .u8 xs hm.symm h; rwa [Int.toNat_natCast] at this⟩
  obtain ⟨A', hc1, hc2, hc3⟩ := hcut
  have HC2 := As.mk hc2
  have HC3 := As.mk hc3
  have HKE : As (goInt ((min xs.length q : Nat) : Int) = .int .i64 (k : Int)) := ⟨by rw [← hm, ← hk]; rfl⟩
  have HTK : As (xs.take q = xs.take k) := ⟨by
    rw [hk, hm]
    by_cases h : xs.length ≤ q
    · rw [Nat.min_eq_left h, List.take_length, List.take_of_length_le h]
    · rw [Nat.min_eq_right (by omega)]⟩
  have hab2 : ad.block ≠ gb := by omega
  have HCL := As.mk hl
  clear hb hl hr ha ho hm hoff hc2 hc3 hk
  go_enter Tryd.func36, Tryd.ntmps36
  go_wp2_with ((with_reducible refine gate (N := 42) rfl ?_); refine wpList_copy_rk rfl _ _ 23 23 rfl base 5 .u8 Tryd.underlying23 size8 gb cap zs HO.out (some ⟨gb, off, none⟩) off q c HQ.out rfl (fun _ => rfl) (some ad) xs c1 ?hs HR.out ?_; (case hs => rw [← HM.out]; rfl); intro w1 ho1 hg1; rw [HKE.out]; rw [HTK.out] at ho1; have HO1 := As.mk ho1; have hcg : Chg (fun b => b = s ∨ b = gb) w w1 := (Chg.refl _ w).grown hg1 (fun b hb e => by injection e with e; exact Or.inr e.symm); have HCG := As.mk hcg; have hb1 : Blk w1 s 36 [.slice (some ad) m c1, .int .i64 sp] := (hg1.block s HB.out.lt (fun e => by injection e with e; exact hne e)).trans HB.out; have HB1 := As.mk hb1; have s0 := hb1.cell 0; have sf := hb1.frozen 0; simp only [List.getElem?_cons_zero] at s0; clear ho1 hg1 hcg hb1)
  go_ret2
  have hfin : Chg (fun b => b = s) w1 (w1.setCell ⟨s, 0, none⟩ (.slice A' (m - k) (c1 - k))) := (Chg.refl _ w1).setCell (p := ⟨s, 0, none⟩) _ (fun _ => rfl)
  have hk1 := HK1.out
  refine ⟨k, hk1.1, hk1.2.1, by rw [← HM.out]; exact hk1.2.2.1, rfl, ⟨A', c1 - k, ?_, ?_, ?_, ?_⟩, own_chg HO1.out hfin (fun b hb e => by simp [Value.ownBlock] at hb; omega), HCG.out.trans hfin (fun i _ e => Or.inl e)⟩
  · have := HB1.out.set_ 0 (.slice A' (m - k) (c1 - k))
    rw [List.length_drop, ← HM.out]
    exact this
  · rw [List.length_drop, ← HM.out]; have := HCL.out; omega
  · have hr2 : Rb w (some ad) xs := HR.out
    have hlt : ad.block < w.heap.size := by
      obtain ⟨ad2, e2, h2, _⟩ := hr2.2 (by rw [← HM.out]; exact hx)
      injection e2 with e2
      subst e2
      exact h2
    exact HC3.out _ (hr2.chg (HCG.out.trans hfin (fun i _ e => Or.inl e)) (fun ad2 e2 _ h => by
      injection e2 with e2
      subst e2
      rcases h with h | h <;> omega))
  · intro ad2 e2 h2
    rw [List.length_drop, ← HM.out] at h2
    have := HC2.out h2
    rw [this] at e2
    injection e2 with e2
    subst e2
    rw [add_block]
    exact hab
set_option maxRecDepth 100000 in
set_option maxHeartbeats 2000000 in
theorem sourceRead_low (et : TypeId) (base s gb cap off n c : Nat) (xs zs : List Int) (sp : Int) (w : World) (hs : Src w base s xs sp) (ho : Own w base et .u8 (.slice (some ⟨gb, 0, none⟩) zs.length cap) zs) (hne : s ≠ gb) (hbs : base ≤ s) (hn : 0 < n) (hoff : off + n ≤ zs.length) (hnc : n ≤ c) (hx : 0 < xs.length) (hxl : xs.length ≤ 2097152) (hzl : zs.length ≤ 1048576) (hsp : sp ≤ 0) :
    Calls Tryd.prog 36 #[.pointer (some ⟨s, 0, none⟩), .slice (some ⟨gb, off, none⟩) n c] w (GotSome et w base s gb cap off n xs zs sp) := by
  obtain ⟨A, c1, hb, hl, hr, ha⟩ := hs
  obtain ⟨ad, hA, _⟩ := hr.at_ 0 (by omega) (by omega)
  subst hA
  have hab := ha ad rfl hx
  have hgb := (own_blocks ho).1
  obtain ⟨m, hm⟩ : ∃ m, m = xs.length := ⟨_, rfl⟩
  have HM := As.mk hm
  rw [← hm] at hb hl hx hxl
  have s0 := hb.cell 0
  have s1 := hb.cell 1
  have sf := hb.frozen 0
  simp only [List.getElem?_cons_zero, List.getElem?_cons_succ] at s0 s1
  have HB := As.mk hb
  have HR := As.mk hr
  have HO := As.mk ho
  have HOFF := As.mk hoff
  have hnz : ((n : Int) == 0) = false := by simp; omega
  have hmz : ((m : Int) == 0) = false := by simp; omega

  have HQ : As (off + n ≤ zs.length) := ⟨by omega⟩
  obtain ⟨k, hk⟩ : ∃ k, k = min m n := ⟨_, rfl⟩
  have HK1 : As (1 ≤ k ∧ k ≤ n ∧ k ≤ m ∧ k ≤ n) := ⟨by omega⟩
  have hcut : ∃ A', (∀ W : World, (Instr.slice 23 (.slice (some ad) m c1) (some (.int .i64 (k : Int))) none none).run Tryd.prog W = .ok (.slice A' (m - k) (c1 - k)) W) ∧ (0 < m - k → A' = some (ad.add k)) ∧ ∀ (w : World), Rb w (some ad) xs → Rb w A' (xs.drop k) := by
    obtain ⟨A', h1, h2, h3⟩ := cut_from (P := Tryd.prog) 23 5 Tryd.underlying23 size8 (some ad) m c1 (k : Int) .i64 (m - k) (c1 - k) (by omega) (by omega) (by omega) hl
    exact ⟨A', h1, fun h => by have := h2 h; rwa [Int.toNat_natCast] at this, fun w h => by have := h3 w .u8 xs hm.symm h; rwa [Int.toNat_natCast] at this⟩
  obtain ⟨A', hc1, hc2, hc3⟩ := hcut
  have HC2 := As.mk hc2
  have HC3 := As.mk hc3
  have HKE : As (goInt ((min xs.length n : Nat) : Int) = .int .i64 (k : Int)) := ⟨by rw [← hm, ← hk]; rfl⟩
  have HTK : As (xs.take n = xs.take k) := ⟨by
    rw [hk, hm]
    by_cases h : xs.length ≤ n
    · rw [Nat.min_eq_left h, List.take_length, List.take_of_length_le h]
    · rw [Nat.min_eq_right (by omega)]⟩
  have hab2 : ad.block ≠ gb := by omega
  have HCL := As.mk hl
  clear hb hl hr ha ho hm hoff hc2 hc3 hk
  go_enter Tryd.func36, Tryd.ntmps36
  go_wp2_with ((with_reducible refine gate (N := 42) rfl ?_); refine wpList_copy_rk rfl _ _ 23 23 rfl base 5 .u8 Tryd.underlying23 size8 gb cap zs HO.out (some ⟨gb, off, none⟩) off n c HOFF.out rfl (fun _ => rfl) (some ad) xs c1 ?hs HR.out ?_; (case hs => rw [← HM.out]; rfl); intro w1 ho1 hg1; rw [HKE.out]; rw [HTK.out] at ho1; have HO1 := As.mk ho1; have hcg : Chg (fun b => b = s ∨ b = gb) w w1 := (Chg.refl _ w).grown hg1 (fun b hb e => by injection e with e; exact Or.inr e.symm); have HCG := As.mk hcg; have hb1 : Blk w1 s 36 [.slice (some ad) m c1, .int .i64 sp] := (hg1.block s HB.out.lt (fun e => by injection e with e; exact hne e)).trans HB.out; have HB1 := As.mk hb1; have s0 := hb1.cell 0; have sf := hb1.frozen 0; simp only [List.getElem?_cons_zero] at s0; clear ho1 hg1 hcg hb1)
  go_ret2
  have hfin : Chg (fun b => b = s) w1 (w1.setCell ⟨s, 0, none⟩ (.slice A' (m - k) (c1 - k))) := (Chg.refl _ w1).setCell (p := ⟨s, 0, none⟩) _ (fun _ => rfl)
  have hk1 := HK1.out
  refine ⟨k, hk1.1, hk1.2.1, by rw [← HM.out]; exact hk1.2.2.1, rfl, ⟨A', c1 - k, ?_, ?_, ?_, ?_⟩, own_chg HO1.out hfin (fun b hb e => by simp [Value.ownBlock] at hb; omega), HCG.out.trans hfin (fun i _ e => Or.inl e)⟩
  · have := HB1.out.set_ 0 (.slice A' (m - k) (c1 - k))
    rw [List.length_drop, ← HM.out]
    exact this
  · rw [List.length_drop, ← HM.out]; have := HCL.out; omega
  · have hr2 : Rb w (some ad) xs := HR.out
    have hlt : ad.block < w.heap.size := by
      obtain ⟨ad2, e2, h2, _⟩ := hr2.2 (by rw [← HM.out]; exact hx)
      injection e2 with e2
      subst e2
      exact h2
    exact HC3.out _ (hr2.chg (HCG.out.trans hfin (fun i _ e => Or.inl e)) (fun ad2 e2 _ h => by
      injection e2 with e2
      subst e2
      rcases h with h | h <;> omega))
  · intro ad2 e2 h2
    rw [List.length_drop, ← HM.out] at h2
    have := HC2.out h2
    rw [this] at e2
    injection e2 with e2
    subst e2
    rw [add_block]
    exact hab
set_option maxRecDepth 100000 in
set_option maxHeartbeats 2000000 in
theorem sourceRead_wide (et : TypeId) (base s gb cap off n c : Nat) (xs zs : List Int) (sp : Int) (w : World) (hs : Src w base s xs sp) (ho : Own w base et .u8 (.slice (some ⟨gb, 0, none⟩) zs.length cap) zs) (hne : s ≠ gb) (hbs : base ≤ s) (hn : 0 < n) (hoff : off + n ≤ zs.length) (hnc : n ≤ c) (hx : 0 < xs.length) (hxl : xs.length ≤ 2097152) (hzl : zs.length ≤ 1048576) (hsp : 0 < sp) (hsp2 : (n : Int) ≤ sp) :
    Calls Tryd.prog 36 #[.pointer (some ⟨s, 0, none⟩), .slice (some ⟨gb, off, none⟩) n c] w (GotSome et w base s gb cap off n xs zs sp) := by
  obtain ⟨A, c1, hb, hl, hr, ha⟩ := hs
  obtain ⟨ad, hA, _⟩ := hr.at_ 0 (by omega) (by omega)
  subst hA
  have hab := ha ad rfl hx
  have hgb := (own_blocks ho).1
  obtain ⟨m, hm⟩ : ∃ m, m = xs.length := ⟨_, rfl⟩
  have HM := As.mk hm
  rw [← hm] at hb hl hx hxl
  have s0 := hb.cell 0
  have s1 := hb.cell 1
  have sf := hb.frozen 0
  simp only [List.getElem?_cons_zero, List.getElem?_cons_succ] at s0 s1
  have HB := As.mk hb
  have HR := As.mk hr
  have HO := As.mk ho
  have HOFF := As.mk hoff
  have hnz : ((n : Int) == 0) = false := by simp; omega
  have hmz : ((m : Int) == 0) = false := by simp; omega

  have HQ : As (off + n ≤ zs.length) := ⟨by omega⟩
  obtain ⟨k, hk⟩ : ∃ k, k = min m n := ⟨_, rfl⟩
  have HK1 : As (1 ≤ k ∧ k ≤ n ∧ k ≤ m ∧ k ≤ n) := ⟨by omega⟩
  have hcut : ∃ A', (∀ W : World, (Instr.slice 23 (.slice (some ad) m c1) (some (.int .i64 (k : Int))) none none).run Tryd.prog W = .ok (.slice A' (m - k) (c1 - k)) W) ∧ (0 < m - k → A' = some (ad.add k)) ∧ ∀ (w : World), Rb w (some ad) xs → Rb w A' (xs.drop k) := by
    obtain ⟨A', h1, h2, h3⟩ := cut_from (P := Tryd.prog) 23 5 Tryd.underlying23 size8 (some ad) m c1 (k : Int) .i64 (m - k) (c1 - k) (by omega) (by omega) (by omega) hl
    exact ⟨A', h1, fun h => by have := h2 h; rwa [Int.toNat_natCast] at this, fun w h => by have := h3 w .u8 xs hm.symm h; rwa [Int.toNat_natCast] at this⟩
  obtain ⟨A', hc1, hc2, hc3⟩ := hcut
  have HC2 := As.mk hc2
  have HC3 := As.mk hc3
  have HKE : As (goInt ((min xs.length n : Nat) : Int) = .int .i64 (k : Int)) := ⟨by rw [← hm, ← hk]; rfl⟩
  have HTK : As (xs.take n = xs.take k) := ⟨by
    rw [hk, hm]
    by_cases h : xs.length ≤ n
    · rw [Nat.min_eq_left h, List.take_length, List.take_of_length_le h]
    · rw [Nat.min_eq_right (by omega)]⟩
  have hab2 : ad.block ≠ gb := by omega
  have HCL := As.mk hl
  clear hb hl hr ha ho hm hoff hc2 hc3 hk
  go_enter Tryd.func36, Tryd.ntmps36
  go_wp2_with ((with_reducible refine gate (N := 42) rfl ?_); refine wpList_copy_rk rfl _ _ 23 23 rfl base 5 .u8 Tryd.underlying23 size8 gb cap zs HO.out (some ⟨gb, off, none⟩) off n c HOFF.out rfl (fun _ => rfl) (some ad) xs c1 ?hs HR.out ?_; (case hs => rw [← HM.out]; rfl); intro w1 ho1 hg1; rw [HKE.out]; rw [HTK.out] at ho1; have HO1 := As.mk ho1; have hcg : Chg (fun b => b = s ∨ b = gb) w w1 := (Chg.refl _ w).grown hg1 (fun b hb e => by injection e with e; exact Or.inr e.symm); have HCG := As.mk hcg; have hb1 : Blk w1 s 36 [.slice (some ad) m c1, .int .i64 sp] := (hg1.block s HB.out.lt (fun e => by injection e with e; exact hne e)).trans HB.out; have HB1 := As.mk hb1; have s0 := hb1.cell 0; have sf := hb1.frozen 0; simp only [List.getElem?_cons_zero] at s0; clear ho1 hg1 hcg hb1)
  go_ret2
  have hfin : Chg (fun b => b = s) w1 (w1.setCell ⟨s, 0, none⟩ (.slice A' (m - k) (c1 - k))) := (Chg.refl _ w1).setCell (p := ⟨s, 0, none⟩) _ (fun _ => rfl)
  have hk1 := HK1.out
  refine ⟨k, hk1.1, hk1.2.1, by rw [← HM.out]; exact hk1.2.2.1, rfl, ⟨A', c1 - k, ?_, ?_, ?_, ?_⟩, own_chg HO1.out hfin (fun b hb e => by simp [Value.ownBlock] at hb; omega), HCG.out.trans hfin (fun i _ e => Or.inl e)⟩
  · have := HB1.out.set_ 0 (.slice A' (m - k) (c1 - k))
    rw [List.length_drop, ← HM.out]
    exact this
  · rw [List.length_drop, ← HM.out]; have := HCL.out; omega
  · have hr2 : Rb w (some ad) xs := HR.out
    have hlt : ad.block < w.heap.size := by
      obtain ⟨ad2, e2, h2, _⟩ := hr2.2 (by rw [← HM.out]; exact hx)
      injection e2 with e2
      subst e2
      exact h2
    exact HC3.out _ (hr2.chg (HCG.out.trans hfin (fun i _ e => Or.inl e)) (fun ad2 e2 _ h => by
      injection e2 with e2
      subst e2
      rcases h with h | h <;> omega))
  · intro ad2 e2 h2
    rw [List.length_drop, ← HM.out] at h2
    have := HC2.out h2
    rw [this] at e2
    injection e2 with e2
    subst e2
    rw [add_block]
    exact hab
theorem sourceRead_some (et : TypeId) (base s gb cap off n c : Nat) (xs zs : List Int) (sp : Int) (w : World) (hs : Src w base s xs sp) (ho : Own w base et .u8 (.slice (some ⟨gb, 0, none⟩) zs.length cap) zs) (hne : s ≠ gb) (hbs : base ≤ s) (hn : 0 < n) (hoff : off + n ≤ zs.length) (hnc : n ≤ c) (hx : 0 < xs.length) (hxl : xs.length ≤ 2097152) (hzl : zs.length ≤ 1048576) :
    Calls Tryd.prog 36 #[.pointer (some ⟨s, 0, none⟩), .slice (some ⟨gb, off, none⟩) n c] w (GotSome et w base s gb cap off n xs zs sp) := by
  by_cases h1 : 0 < sp
  · by_cases h2 : sp < (n : Int)
    · exact sourceRead_cut et base s gb cap off n c xs zs sp w hs ho hne hbs hn hoff hnc hx hxl hzl h1 h2
    · exact sourceRead_wide et base s gb cap off n c xs zs sp w hs ho hne hbs hn hoff hnc hx hxl hzl h1 (by omega)
  · exact sourceRead_low et base s gb cap off n c xs zs sp w hs ho hne hbs hn hoff hnc hx hxl hzl (by omega)
end Go.Proofs.YtalbaapbiopamaaDoor
