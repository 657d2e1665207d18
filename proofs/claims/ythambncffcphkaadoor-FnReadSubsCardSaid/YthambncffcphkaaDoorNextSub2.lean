/- The contract of packet.nextSubpacket, whole; OpaqueSubpackets. -/
import Derived.Test.YthambncffcphkaaDoorNextSub
import Derived.Deep.LoopGhost
set_option linter.unusedVariables false
set_option linter.unusedSimpArgs false
namespace Go.Proofs.YthambncffcphkaaDoor
open Go.RowKit V
set_option maxRecDepth 100000 in
set_option maxHeartbeats 4000000 in
theorem next_short (F : Nat → Prop) (A : Option Addr) (L c : Nat) (xs : List Int) (w : World) (hn : L = xs.length) (hnc : L ≤ c) (hx : Rb w A xs) (hb : Byt xs) (h0 : 0 < L)
    (hs : rd xs 0 < 192 ∧ L < 2 ∨ 192 ≤ rd xs 0 ∧ rd xs 0 < 255 ∧ L < 3 ∨ rd xs 0 = 255 ∧ L < 6) (hsub : sub1 xs = none) :
    Calls Tryd.prog 21 #[.slice A L c] w (NextOf F w xs) := by
  have HE := As.mk hsub
  obtain ⟨a0, hA, hc0⟩ := hx.at_ 0 (by omega) (by omega)
  subst hA
  have hcA : ∀ o, (w.alloc o).cell? a0 = some (.int .u8 (rd xs 0)) := fun o => by
    obtain ⟨ad, e, hc⟩ := (hx.alloc o).at_ 0 (by omega) (by omega)
    injection e with e
    subst e
    simpa [Addr.add] using hc
  have hL1 : ¬ ((L : Int) < 1) := by omega
  have hLp : (0 : Int) < (L : Int) := by omega
  clear hc0 hn hx hb hsub
  have HS := As.mk hs
  clear hs
  rcases HS.out with ⟨h1, h2⟩ | ⟨h1, h3, h2⟩ | ⟨h1, h2⟩
  · have hl : (L : Int) < 2 := by omega
    generalize rd xs 0 = f at *
    go_enter Tryd.func21, Tryd.ntmps21
    go_wp2_with fail
    refine wp_scope_fwd 0 rfl ?_
    go_wp2_with fail
    go_step3
    simp only [Exit.then, Exit.inBlock]
    refine fwd_goto ?_
    go_wp2_with fail
    refine noGoto_ret ?_
    go_ret3
    exact nextOf_none HE.out ((Chg.refl _ _).alloc _)
  · have hl : (L : Int) < 3 := by omega
    generalize rd xs 0 = f at *
    go_enter Tryd.func21, Tryd.ntmps21
    go_wp2_with fail
    refine wp_scope_fwd 0 rfl ?_
    go_wp2_with fail
    go_step3
    simp only [Exit.then, Exit.inBlock]
    refine fwd_goto ?_
    go_wp2_with fail
    refine noGoto_ret ?_
    go_ret3
    exact nextOf_none HE.out ((Chg.refl _ _).alloc _)
  · have hl : (L : Int) < 6 := by omega
    simp only [h1] at hcA
    clear h1
    go_enter Tryd.func21, Tryd.ntmps21
    go_wp2_with fail
    refine wp_scope_fwd 0 rfl ?_
    go_wp2_with fail
    go_step3
    simp only [Exit.then, Exit.inBlock]
    refine fwd_goto ?_
    go_wp2_with fail
    refine noGoto_ret ?_
    go_ret3
    exact nextOf_none HE.out ((Chg.refl _ _).alloc _)
theorem next_any (F : Nat → Prop) (A : Option Addr) (L c : Nat) (xs : List Int) (w : World) (hn : L = xs.length) (hnc : L ≤ c) (hx : Rf F w A xs) (hb : Byt xs) (hl : L ≤ 1048576) :
    Calls Tryd.prog 21 #[.slice A L c] w (NextOf F w xs) := by
  have r1 := hb.rd 0
  by_cases h0 : L = 0
  · have : xs = [] := List.eq_nil_of_length_eq_zero (by omega)
    subst this
    subst h0
    exact next_empty F A c w
  · cases h : subHead xs with
    | none =>
      refine next_short F A L c xs w hn hnc hx.1 hb (by omega) ?_ (by unfold sub1; rw [h])
      unfold subHead at h
      rw [if_neg (by omega)] at h
      by_cases h1 : rd xs 0 < 192
      · rw [if_pos h1] at h; cases h
      · rw [if_neg h1] at h
        by_cases h2 : rd xs 0 < 255
        · rw [if_pos h2] at h
          by_cases h3 : xs.length < 2
          · exact .inr (.inl ⟨by omega, h2, by omega⟩)
          · rw [if_neg h3] at h; cases h
        · rw [if_neg h2] at h
          by_cases h3 : xs.length < 5
          · exact .inr (.inr ⟨by omega, by omega⟩)
          · rw [if_neg h3] at h; cases h
    | some p =>
      obtain ⟨o, n⟩ := p
      by_cases ho : o < L
      · exact next_head F A L c o n xs w hn hnc hx hb hl h ho
      · have hp := subHead_pos h
        refine next_short F A L c xs w hn hnc hx.1 hb (by omega) ?_ ?_
        · unfold subHead at h
          rw [if_neg (by omega)] at h
          by_cases h1 : rd xs 0 < 192
          · rw [if_pos h1] at h; injection h with h; injection h with e1 e2; exact .inl ⟨h1, by omega⟩
          · rw [if_neg h1] at h
            by_cases h2 : rd xs 0 < 255
            · rw [if_pos h2] at h
              by_cases h3 : xs.length < 2
              · rw [if_pos h3] at h; cases h
              · rw [if_neg h3] at h; injection h with h; injection h with e1 e2; exact .inr (.inl ⟨by omega, h2, by omega⟩)
            · rw [if_neg h2] at h
              by_cases h3 : xs.length < 5
              · rw [if_pos h3] at h; cases h
              · rw [if_neg h3] at h; injection h with h; injection h with e1 e2; exact .inr (.inr ⟨by omega, by omega⟩)
        · unfold sub1; rw [h]; simp; omega
/-! ### OpaqueSubpackets -/
theorem infoP : (Tryd.prog.info? 66).map (fun i => (i.zero, i.size, i.bytes)) = some (some (.pointer none), 1, 8) := by kernel_rfl
def Sml (it : SubIt) : Prop := it.2.1.length ≤ 1048576 ∧ it.2.2.length ≤ 1048576
/-- What OpaqueSubpackets answers. -/
def OpsOf (F : Nat) (w : World) (xs : List Int) (e : Ending) (w' : World) : Prop :=
  Chg NoB w w' ∧
  match subsA xs with
  | none => ∃ (v : Value) (l : List SubIt), e = .returned (.tuple #[v, .iface 71 (.string noSub)]) ∧ Pvs w' F w.heap.size 66 70 .u8 v l ∧ l.length ≤ xs.length ∧ ∀ it ∈ l, Sml it
  | some l => ∃ v, e = .returned (.tuple #[v, .nilIface]) ∧ Pvs w' F w.heap.size 66 70 .u8 v l ∧ l.length ≤ xs.length ∧ ∀ it ∈ l, Sml it
set_option maxRecDepth 100000 in
set_option maxHeartbeats 4000000 in
theorem opaqueSubs_any (A : Option Addr) (L c : Nat) (xs : List Int) (w : World) (hn : L = xs.length) (hnc : L ≤ c) (hx : Rb w A xs) (hb : Byt xs) (hl : L ≤ 1048576) :
    Calls Tryd.prog 12 #[.slice A L c] w (OpsOf w.heap.size w xs) := by
  have HX := As.mk (Rf.of hx (Nat.le_refl _))
  have HN := As.mk hn
  have HB := As.mk hb
  clear hx hn hb
  go_enter Tryd.func12, Tryd.ntmps12
  go_wp2
  go_loopw [0, 2, 3] (fun b r er w' => ∃ (A' : Option Addr) (n' c' : Nat) (ys : List Int) (l : List SubIt) (rv : Value), b = .slice A' n' c' ∧ rv = r ∧ n' ≤ c' ∧ n' ≤ 1048576 ∧ er = .nilIface ∧ As (n' = ys.length) ∧ As (Rf (· < w.heap.size) w' A' ys) ∧ As (Byt ys) ∧ As (Pvs w' w.heap.size w.heap.size 66 70 .u8 r l) ∧ As (Chg NoB w w') ∧ As (subsA xs = (subsA ys).map (l ++ ·)) ∧ As (l.length + ys.length ≤ xs.length) ∧ As (∀ it ∈ l, Sml it)) (fun b _ _ _ => match b with | .slice _ n _ => n | _ => 0)
  case atStart => exact ⟨A, L, c, xs, [], _, rfl, rfl, hnc, hl, rfl, HN, HX, HB, ⟨Pvs.nil _ _ _ _ _ _⟩, ⟨Chg.refl _ _⟩, ⟨by cases subsA xs <;> simp⟩, ⟨by simp⟩, ⟨fun it h => by simp at h⟩⟩
  case round =>
    obtain ⟨A', n', c', ys, l, rv, rfl, rfl, hnc', hl', rfl, HN', HX', HB', HPV, HC', HS', HLL, HSM⟩ := hrel
    by_cases h0 : n' = 0
    · have hz : ¬ ((n' : Int) > 0) := by omega
      subst h0
      go_wp2_with fail
      go_ret2
      refine ⟨HC'.out, ?_⟩
      rw [subsA_end HS'.out HN'.out.symm]
      exact ⟨_, rfl, HPV.out, by have := HLL.out; omega, HSM.out⟩
    · have hz : (0 : Int) < (n' : Int) := by omega
      have hnext := As.mk (next_any (· < w.heap.size) A' n' c' ys wr HN'.out hnc' HX'.out HB'.out hl')
      have hyp : As (0 < ys.length) := ⟨by have := HN'.out; omega⟩
      cases hs : sub1 ys with
      | none =>
        have HSN := As.mk (subsA_bad HS'.out hyp.out hs)
        go_wp2_with fail
        refine hnext.out.mono ?_
        rintro e w1 ⟨hc1, hm⟩
        rw [hs] at hm
        obtain ⟨h, p, rfl⟩ := hm
        go_wp2_with fail
        go_ret2
        refine ⟨HC'.out.trans hc1 (fun _ _ e => e), ?_⟩
        rw [HSN.out]
        exact ⟨_, l, rfl, HPV.out.keep hc1, by have := HLL.out; omega, HSM.out⟩
      | some q =>
        obtain ⟨o, n⟩ := q
        have hpos := sub1_pos hs
        have HSN := As.mk (subsA_step HS'.out hs)
        obtain ⟨m, rfl⟩ : ∃ m, n = m + 1 := ⟨n - 1, by omega⟩
        obtain ⟨p, hp⟩ : ∃ p, p = o + 1 := ⟨_, rfl⟩
        obtain ⟨t, ht⟩ : ∃ t, t = p + m := ⟨_, rfl⟩
        have hnl := HN'.out
        have hwt : IntKind.i64.wrap ((p : Int) + (m : Int)) = (t : Int) := by rw [ht]; simp [IntKind.wrap, IntKind.bits, IntKind.signed]; omega
        obtain ⟨A3, hcF, hcR⟩ := cut_from_f (P := Tryd.prog) 22 5 Tryd.underlying22 size8 A' n' c' (t : Int) .i64 (n' - t) (c' - t) (by omega) (by omega) (by omega) (by omega)
        have HCR := As.mk hcR
        have HT : As (t = o + (m + 1) ∧ t ≤ n' ∧ 0 < t) := ⟨by omega⟩
        have hs2 := As.mk hs
        clear hcR hpos hnl ht hs
        go_wp2_with fail
        refine hnext.out.mono ?_
        rintro e w1 ⟨hc1, hm⟩
        rw [hs2.out] at hm
        obtain ⟨g, ⟨st, sA1, sn1, sc1, sA2, sn2, sc2⟩, rfl, hg, hblk, his⟩ := hm
        rw [← hp]
        obtain rfl : sn2 = m := by
          have := his.n2
          simp only [itemOf, List.length_take, List.length_drop] at this
          have := HT.out; have := HN'.out; omega
        have HIS := As.mk his
        have HG := As.mk hg
        have HBL := As.mk hblk
        have HC1 := As.mk (HC'.out.trans hc1 (fun _ _ e => e))
        have HX1 := As.mk (HX'.out.keep hc1)
        obtain ⟨vs, hvl, hvo, hvi⟩ := HPV.out.keep hc1
        have HVL := As.mk hvl
        have HVO := As.mk hvo
        have HVI := As.mk hvi
        have HNG : As (∀ b, rv.ownBlock = some b → b < g) := ⟨fun b hb => by
          obtain ⟨_, _, ho, _⟩ := HPV.out
          exact Nat.lt_of_lt_of_le (ho.lt b hb).2 hg⟩
        clear his hg hblk hc1 hvl hvo hvi hp
        have HRB : As (∀ b, rv.ownBlock = some b → w.heap.size ≤ b) := ⟨fun b hb => by
          obtain ⟨_, _, ho, _⟩ := HPV.out
          exact (ho.lt b hb).1⟩
        go_wp2_with (at_builtin; refine wpList_append_s rfl _ _ 42 rfl 66 1 (.pointer none) 8 Tryd.underlying42 infoP rfl (by decide) (by decide) rv w.heap.size l.length (vs.map fun p => .pointer (some ⟨p.1, 0, none⟩)) ⟨w1.heap.size, 0, none⟩ 1 [.pointer (some ⟨g, 0, none⟩)] rfl rfl ?k1 rfl ?k2 (by simp [Value.oneCell']) ?k4 ?k5 ?_)
        (case k1 => exact row_keep HVO.out ((Chg.refl _ _).alloc _))
        (case k2 => exact (Blk.new w1 _ [.pointer (some ⟨g, 0, none⟩)]).news)
        (case k4 => exact Nat.le_trans HC1.out.size (Chg.size ((Chg.refl NoB w1).alloc _)))
        (case k5 => (have := HLL.out; have := HN.out; omega))
        intro v2 w2 h2 h3 h5
        have HPV2 := As.mk (Pvs.snoc (B := w.heap.size) (p := (g, ⟨st, sA1, sn1, sc1, sA2, sn2, sc2⟩)) (it := itemOf ys o (sn2 + 1)) (Nat.le_refl _) HVL.out (row_keep HVO.out ((Chg.refl _ _).alloc _)) (fun i p it a b => by obtain ⟨q1, q2, q3, q4⟩ := HVI.out i p it a b; exact ⟨q1, q2, q3.alloc _, q4.chg ((Chg.refl NoB _).alloc _) (fun _ _ _ e => e)⟩) ⟨fun e => Nat.lt_irrefl _ (HNG.out _ e), Nat.le_trans HC'.out.size HG.out, HBL.out.alloc _, HIS.out.chg ((Chg.refl NoB _).alloc _) (fun _ _ _ e => e)⟩ h2 h3 (h5.imp id (fun h => h.trans (congrArg some (Array.size_push _).symm))))
        have hc12 := ((Chg.refl NoB w1).alloc (.cells #[.pointer (some ⟨g, 0, none⟩)] 66)).trans (S' := fun b => rv.ownBlock = some b) (grown_chg h3)
        have HC2 := As.mk ((HC1.out.alloc (.cells #[.pointer (some ⟨g, 0, none⟩)] 66)).trans (grown_chg h3) (fun i hi e => absurd (HRB.out i e) (by omega)))
        have HX2 := As.mk ((HX1.out.keep ((Chg.refl NoB w1).alloc (.cells #[.pointer (some ⟨g, 0, none⟩)] 66))).chg (grown_chg h3) (fun b _ hb e => absurd (HRB.out b e) (by omega)))
        have hcl := ((HBL.out.alloc (.cells #[.pointer (some ⟨g, 0, none⟩)] 66)).chg (grown_chg h3) (fun e => Nat.lt_irrefl _ (HNG.out _ e))).cell 2
        simp only [Sv.cells, List.getElem?_cons_zero, List.getElem?_cons_succ] at hcl
        clear h2 h3 h5 hc12
        go_wp2_with fail
        go_roundw
        case rel => exact ⟨A3, n' - t, c' - t, ys.drop t, l ++ [itemOf ys o (sn2 + 1)], _, rfl, rfl, by omega, by omega, rfl, ⟨by rw [List.length_drop, ← HN'.out]⟩, ⟨by have := HCR.out (· < w.heap.size) _ ys HN'.out.symm HX2.out; rwa [Int.toNat_natCast] at this⟩, ⟨HB'.out.drop t⟩, HPV2, HC2, ⟨by rw [HT.out.1]; exact HSN.out⟩, ⟨by have := HLL.out; have := HT.out; rw [List.length_append, List.length_drop, List.length_singleton]; have := HN'.out; omega⟩, ⟨fun it h => by
          rcases List.mem_append.1 h with h | h
          · exact HSM.out it h
          · rw [List.mem_singleton] at h; subst h
            refine ⟨?_, ?_⟩
            · show (ys.take o).length ≤ _; rw [List.length_take]; have := HN'.out; omega
            · show ((ys.drop (o + 1)).take _).length ≤ _; rw [List.length_take, List.length_drop]; have := HN'.out; omega⟩⟩
        case measure => have := HT.out; simp; omega
end Go.Proofs.YthambncffcphkaaDoor
