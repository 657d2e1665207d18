/- The contract of spec.Subs. -/
import Derived.Test.YthambncffcphkaaDoorReadSub
set_option linter.unusedVariables false
set_option linter.unusedSimpArgs false
namespace Go.Proofs.YthambncffcphkaaDoor
open Go.RowKit V
theorem infoSpecSub : (Tryd.prog.info? 51).map (fun i => (i.zero, i.size, i.bytes)) = some (some (.agg #[.int .i64 0, .slice none 0 0, .slice none 0 0]), 3, 56) := by kernel_rfl
/-- What Subs answers. -/
def SubsOf (w : World) (xs : List Int) (e : Ending) (w' : World) : Prop :=
  Chg NoB w w' ∧
  match subsA xs with
  | none => ∃ (h : Int), h ≠ 0 ∧ e = .returned (.tuple #[.slice none 0 0, .int .i64 h])
  | some l => ∃ v, e = .returned (.tuple #[v, .int .i64 0]) ∧ Svs w' w.heap.size 51 .i64 v l ∧ l.length ≤ xs.length
set_option maxRecDepth 100000 in
set_option maxHeartbeats 4000000 in
theorem subs_any (A : Option Addr) (L c : Nat) (xs : List Int) (w : World) (hn : L = xs.length) (hnc : L ≤ c) (hx : Rb w A xs) (hb : Byt xs) (hl : L ≤ 1048576) :
    Calls Tryd.prog 6 #[.slice A L c] w (SubsOf w xs) := by
  have HX := As.mk (Rf.of hx (Nat.le_refl _))
  have HN := As.mk hn
  have HB := As.mk hb
  clear hx hn hb
  go_enter Tryd.func6, Tryd.ntmps6
  go_wp2
  go_loopw [0, 4] (fun b r w' => ∃ (A' : Option Addr) (n' c' : Nat) (ys : List Int) (l : List SubIt) (rv : Value), b = .slice A' n' c' ∧ rv = r ∧ n' ≤ c' ∧ n' ≤ 1048576 ∧ As (n' = ys.length) ∧ As (Rf (· < w.heap.size) w' A' ys) ∧ As (Byt ys) ∧ As (Svs w' w.heap.size 51 .i64 rv l) ∧ As (Chg NoB w w') ∧ As (subsA xs = (subsA ys).map (l ++ ·)) ∧ As (l.length + ys.length ≤ xs.length)) (fun b _ _ => match b with | .slice _ n _ => n | _ => 0)
  case atStart => exact ⟨A, L, c, xs, [], _, rfl, rfl, hnc, hl, HN, HX, HB, ⟨Svs.nil _ _ _ _⟩, ⟨Chg.refl _ _⟩, ⟨by cases subsA xs <;> simp⟩, ⟨by simp⟩⟩
  case round =>
    obtain ⟨A', n', c', ys, l, rv, rfl, rfl, hnc', hl', HN', HX', HB', HSV, HC', HS', HLL⟩ := hrel
    by_cases h0 : n' = 0
    · have hz : ¬ ((n' : Int) > 0) := by omega
      subst h0
      go_wp2_with fail
      go_ret2
      refine ⟨HC'.out, ?_⟩
      rw [subsA_end HS'.out HN'.out.symm]
      exact ⟨_, rfl, HSV.out, by have := HLL.out; omega⟩
    · have hz : (0 : Int) < (n' : Int) := by omega
      have hnext := As.mk (readSub_any A' n' c' ys wr HN'.out hnc' HX'.out.1 HB'.out hl')
      have hyp : As (0 < ys.length) := ⟨by have := HN'.out; omega⟩
      cases hs : sub1 ys with
      | none =>
        have HSN := As.mk (subsA_bad HS'.out hyp.out hs)
        go_wp2_with fail
        refine hnext.out.mono ?_
        rintro e w1 ⟨hc1, hm⟩
        rw [hs] at hm
        obtain ⟨h, hh, rfl⟩ := hm
        have hhb : (h != 0) = true := by simpa using hh
        go_wp2_with fail
        go_ret2
        refine ⟨?_, ?_⟩
        · refine HC'.out.trans (S' := NoB) ?_ (fun _ _ e => e)
          repeat (first | exact hc1 | (with_reducible apply Chg.alloc) | (refine Chg.setCell ?_ _ (fun hlt => absurd (Nat.lt_of_lt_of_le hlt hc1.size) (Nat.lt_irrefl _))))
        · rw [HSN.out]
          exact ⟨h, hh, rfl⟩
      | some q =>
        obtain ⟨o, n⟩ := q
        have hpos := sub1_pos hs
        have HSN := As.mk (subsA_step HS'.out hs)
        obtain ⟨m, rfl⟩ : ∃ m, n = m + 1 := ⟨n - 1, by omega⟩
        obtain ⟨t, ht⟩ : ∃ t, t = o + (m + 1) := ⟨_, rfl⟩
        have hnl := HN'.out
        obtain ⟨A3, hcF, hcR⟩ := cut_from_f (P := Tryd.prog) 22 5 Tryd.underlying22 size8 A' n' c' (t : Int) .i64 (n' - t) (c' - t) (by omega) (by omega) (by omega) (by omega)
        have HCR := As.mk hcR
        have HT : As (t = o + (m + 1) ∧ t ≤ n' ∧ 0 < t) := ⟨by omega⟩
        have hs2 := As.mk hs
        clear hcR hpos hnl hs
        go_wp2_with fail
        refine hnext.out.mono ?_
        rintro e w1 ⟨hc1, hm⟩
        rw [hs2.out] at hm
        obtain ⟨A1, c1, A2, c2, rfl, f1, f2⟩ := hm
        rw [← ht]
        obtain ⟨st, hst⟩ : ∃ st, st = rd ys (o : Int) := ⟨_, rfl⟩
        rw [← hst, Nat.add_sub_cancel]
        rw [Nat.add_sub_cancel] at f2
        have HST := As.mk hst
        have HF1 := As.mk f1
        have HF2 := As.mk f2
        have HLN : As (o ≤ ys.length ∧ o + (m + 1) ≤ ys.length) := ⟨by have := HT.out; have := HN'.out; omega⟩
        have HC1 := As.mk hc1
        clear hc1 f1 f2 ht hst
        go_upto_region 6 with fail
        obtain ⟨wA, hwA⟩ : ∃ wA, wA = w1.alloc (.cells #[.int .i64 st, .slice A1 o c1, .slice A2 m c2] 51) := ⟨_, rfl⟩
        have HCA : As (Chg NoB wr wA) := ⟨by rw [hwA]; exact HC1.out.alloc _⟩
        have ba : Blk wA w1.heap.size 51 [.int .i64 st, .slice A1 o c1, .slice A2 m c2] := by rw [hwA]; exact Blk.new w1 _ [.int .i64 st, .slice A1 o c1, .slice A2 m c2]
        have HA1 : As (Rf (fun b => wr.heap.size ≤ b) wA A1 (ys.take o)) := ⟨by rw [hwA]; exact HF1.out.keep ((Chg.refl _ _).alloc _)⟩
        have HA2 : As (Rf (fun b => wr.heap.size ≤ b) wA A2 ((ys.drop (o + 1)).take m)) := ⟨by rw [hwA]; exact HF2.out.keep ((Chg.refl _ _).alloc _)⟩
        rw [← hwA]
        clear hwA
        have x0 := ba.cell 0
        have x1 := ba.cell 1
        have x2 := ba.cell 2
        simp only [List.getElem?_cons_zero, List.getElem?_cons_succ] at x0 x1 x2
        obtain ⟨vs, hvl, hvo, hvi⟩ := HSV.out.keep HCA.out
        have HVL := As.mk hvl
        have HVO := As.mk hvo
        have HVI := As.mk hvi
        have HRB : As (∀ b, rv.ownBlock = some b → w.heap.size ≤ b ∧ b < wr.heap.size) := ⟨fun b hb => by
          obtain ⟨_, _, ho, _⟩ := HSV.out
          exact ho.lt b hb⟩
        clear ba hvl hvo hvi
        go_wp2_with (at_builtin; refine wpList_append_s rfl _ _ 26 rfl 51 3 (.agg #[.int .i64 0, .slice none 0 0, .slice none 0 0]) 56 Tryd.underlying26 infoSpecSub rfl (by decide) (by decide) rv w.heap.size l.length (vs.flatMap (Sv.cells .i64)) ⟨wA.heap.size, 0, none⟩ 1 [.int .i64 st, .slice A1 o c1, .slice A2 m c2] rfl rfl ?k1 rfl ?k2 (by simp [Value.oneCell']) ?k4 ?k5 ?_)
        (case k1 => exact row_keep HVO.out ((Chg.refl _ _).alloc _))
        (case k2 => exact (Blk.new wA _ [.int .i64 st, .slice A1 o c1, .slice A2 m c2]).news)
        (case k4 => exact Nat.le_trans HC'.out.size (Nat.le_trans HCA.out.size (Chg.size ((Chg.refl NoB wA).alloc _))))
        (case k5 => (have := HLL.out; have := HN.out; omega))
        intro v2 w2 h2 h3 h5
        have hal := (Chg.refl NoB wA).alloc (.cells #[.int .i64 st, .slice A1 o c1, .slice A2 m c2] 51)
        have HSV2 := As.mk (Svs.snoc (s := ⟨st, A1, o, c1, A2, m, c2⟩) (it := itemOf ys o (m + 1)) HVL.out (row_keep HVO.out hal) (fun i p it a b => (HVI.out i p it a b).chg hal (fun _ _ _ e => e))
          ⟨HST.out, by show o = (ys.take o).length; have := HLN.out; rw [List.length_take]; omega, by show m = ((ys.drop (o + 1)).take m).length; have := HLN.out; rw [List.length_take, List.length_drop]; omega, (HA1.out.keep hal).mono (fun b _ hb e => absurd (HRB.out b e).2 (by omega)), (HA2.out.keep hal).mono (fun b _ hb e => absurd (HRB.out b e).2 (by omega))⟩
          h2 h3 (h5.imp id (fun h => h.trans (congrArg some (Array.size_push _).symm))))
        have HC2 := As.mk (((HC'.out.trans HCA.out (fun _ _ e => e)).trans hal (fun _ _ e => e)).trans (S' := fun b => rv.ownBlock = some b) (grown_chg h3) (fun i hi e => absurd (HRB.out i e).1 (by omega)))
        have HX2 := As.mk ((HX'.out.keep (HCA.out.trans hal (fun _ _ e => e))).chg (grown_chg h3) (fun b _ hb e => absurd (HRB.out b e).1 (by omega)))
        clear h2 h3 h5 hal
        go_wp2_with fail
        go_roundw
        case rel => exact ⟨A3, n' - t, c' - t, ys.drop t, l ++ [itemOf ys o (m + 1)], _, rfl, rfl, by omega, by omega, ⟨by rw [List.length_drop, ← HN'.out]⟩, ⟨by have := HCR.out (· < w.heap.size) _ ys HN'.out.symm HX2.out; rwa [Int.toNat_natCast] at this⟩, ⟨HB'.out.drop t⟩, HSV2, HC2, ⟨by rw [HT.out.1]; exact HSN.out⟩, ⟨by have := HLL.out; have := HT.out; rw [List.length_append, List.length_drop, List.length_singleton]; have := HN'.out; omega⟩⟩
        case measure => have := HT.out; simp; omega
end Go.Proofs.YthambncffcphkaaDoor
