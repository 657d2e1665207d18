/- The contract of impl.subs. -/
import Derived.Test.YthambncffcphkaaDoorNextSub2
import Derived.Deep.RegionHeld3
set_option linter.unusedVariables false
set_option linter.unusedSimpArgs false
namespace Go.Proofs.YthambncffcphkaaDoor
open Go.RowKit V
theorem infoImplSub : (Tryd.prog.info? 55).map (fun i => (i.zero, i.size, i.bytes)) = some (some (.agg #[.int .u8 0, .slice none 0 0, .slice none 0 0]), 3, 56) := by kernel_rfl
def ImplSubsOf (w : World) (l : List SubIt) (e : Ending) (w' : World) : Prop := ∃ v, e = .returned v ∧ Chg NoB w w' ∧ Svs w' w.heap.size 55 .u8 v l
set_option maxRecDepth 100000 in
set_option maxHeartbeats 8000000 in
theorem implSubs_any (F B : Nat) (v : Value) (l : List SubIt) (w : World) (hv : Pvs w F B 66 70 .u8 v l) (hl : l.length ≤ 1048576) (hs : ∀ it ∈ l, Sml it) :
    Calls Tryd.prog 14 #[v] w (ImplSubsOf w l) := by
  have HV := As.mk hv
  obtain ⟨A, c, rfl, hlc, hl63, _⟩ := hv.at_
  have HS := As.mk hs
  obtain ⟨n, hn⟩ : ∃ n, n = l.length := ⟨_, rfl⟩
  rw [← hn] at hlc hl hl63
  have HN := As.mk hn
  clear hv hs
  rw [← hn]
  clear hn
  go_enter Tryd.func14, Tryd.ntmps14
  go_wp2
  go_loopw [3, 8] (fun r i w' => ∃ (k : Nat) (rv : Value), rv = r ∧ i = .int .i64 k ∧ k ≤ n ∧ As (Svs w' w.heap.size 55 .u8 rv (l.take k)) ∧ As (Chg NoB w w')) (fun _ i _ => n - (intOf i).toNat)
  case atStart => exact ⟨0, _, rfl, rfl, Nat.zero_le _, ⟨by simpa using Svs.nil _ _ _ _⟩, ⟨Chg.refl _ _⟩⟩
  case round =>
    obtain ⟨k, rv, rfl, rfl, hk, HSV, HC'⟩ := hrel
    by_cases hlt : k < n
    · have HIT : As (l[k]? = some (l[k]'(by have := HN.out; omega))) := ⟨List.getElem?_eq_getElem _⟩
      have HSK := As.mk (HS.out _ (List.getElem_mem (by have := HN.out; omega) : l[k]'(by have := HN.out; omega) ∈ l))
      have HTK : As (l.take (k + 1) = l.take k ++ [l[k]'(by have := HN.out; omega)]) := ⟨List.take_succ_eq_append_getElem _⟩
      generalize l[k]'(by have := HN.out; omega) = it at *
      obtain ⟨_, _, e1, _, _, hat⟩ := HV.out.at_
      injection e1 with e1 e2 e3
      obtain ⟨g, p, ⟨st, A1, n1, c1, A2, n2, c2⟩, eA, hcp, hbl, his⟩ := hat k it HIT.out
      rw [← e1] at eA
      subst eA
      have hplt := hbl.lt
      have HBL := As.mk (hbl.chg HC'.out (fun e => e))
      have HIS := As.mk (his.chg HC'.out (fun _ _ _ e => e))
      have HCP : As (wr.cell? ⟨g, k, none⟩ = some (.pointer (some ⟨p, 0, none⟩))) := ⟨(HC'.out.cell (p := ⟨g, k, none⟩) (World.block_lt_of_cell? w _ hcp) (fun e => e)).trans hcp⟩
      have KQ : As (∀ w', Chg (fun b => w.heap.size ≤ b) wr w' → w'.cell? ⟨p, 0, none⟩ = some (.int .u8 st) ∧ w'.cell? ⟨p, 1, none⟩ = some (.slice A1 n1 c1) ∧ w'.cell? ⟨p, 2, none⟩ = some (.slice A2 n2 c2)) := ⟨fun w' h => by
        have b := HBL.out.chg h (fun e => absurd hplt (by omega))
        exact ⟨b.cell 0, b.cell 1, b.cell 2⟩⟩
      have hq := KQ.out _ (Chg.refl _ _)
      have q0 := hq.1
      have q1 := hq.2.1
      have q2 := hq.2.2
      have HB : As (Chg NoB wr wr) := ⟨Chg.refl _ _⟩
      have HLK : As ((l.take k).length = k) := ⟨by rw [List.length_take]; have := HN.out; omega⟩
      have HRB : As (∀ b, rv.ownBlock = some b → w.heap.size ≤ b ∧ b < wr.heap.size) := ⟨fun b hb => by
        obtain ⟨_, _, ho, _⟩ := HSV.out
        exact ho.lt b hb⟩
      clear hat hcp hbl his hq e1 e2 e3
      have hcp := HCP.out
      obtain ⟨vs, hvl, hvo, hvi⟩ := HSV.out
      have HVL := As.mk hvl
      have HVO : As (wr.ownsRow w.heap.size 55 3 rv k (vs.flatMap (Sv.cells .u8))) := ⟨by rw [HLK.out] at hvo; exact hvo⟩
      have HVI := As.mk hvi
      clear hvl hvo hvi
      go_upto_region 5 with fail
      go_region_held3 (fun w' => w'.cell? ⟨p, 0, none⟩ = some (.int .u8 st) ∧ w'.cell? ⟨p, 1, none⟩ = some (.slice A1 n1 c1) ∧ w'.cell? ⟨p, 2, none⟩ = some (.slice A2 n2 c2)) (exact KQ.out _ (by repeat (first | exact HB.out.mono (fun _ _ e => e.elim) | exact HBF.out | (with_reducible apply Chg.drew) | (with_reducible apply Chg.alloc)))) (first
        | (go_at_call_of 13 (Value.slice A1 n1 c1)
           refine (own_any A1 n1 c1 it.2.1 _ HIS.out.n1 (HIS.out.r1.keep ?r1).1 ?r2).mono ?_
           case r1 => exact (by repeat (first | exact HB.out | (with_reducible apply Chg.drew) | (with_reducible apply Chg.alloc)))
           case r2 => (have := HSK.out.1; omega)
           rintro e w21 ⟨v21, rfl, ho21, hc21⟩
           obtain ⟨A21, c21, rfl, _, _, _⟩ := own_form ho21
           rw [← HIS.out.n1]
           have HO21 := As.mk ((Rf.of_ow (.inl ho21) (Nat.le_refl _)).mono (F' := fun b => wr.heap.size ≤ b) (fun b _ hb => Nat.le_trans (Chg.size (S := NoB) (by repeat (first | exact HB.out | (with_reducible apply Chg.drew) | (with_reducible apply Chg.alloc)))) hb))
           have HB21 : As (Chg NoB wr w21) := ⟨Chg.trans (by repeat (first | exact HB.out | (with_reducible apply Chg.drew) | (with_reducible apply Chg.alloc))) hc21 (fun _ _ e => e)⟩
           clear HB hc21 ho21
           have HB := HB21
           clear HB21)
        | (go_at_call_of 13 (Value.slice A2 n2 c2)
           refine (own_any A2 n2 c2 it.2.2 _ HIS.out.n2 (HIS.out.r2.keep ?r1).1 ?r2).mono ?_
           case r1 => exact (by repeat (first | exact HB.out | (with_reducible apply Chg.drew) | (with_reducible apply Chg.alloc)))
           case r2 => (have := HSK.out.2; omega)
           rintro e w26 ⟨v26, rfl, ho26, hc26⟩
           obtain ⟨A26, c26, rfl, _, _, _⟩ := own_form ho26
           rw [← HIS.out.n2]
           have HO26 := As.mk ((Rf.of_ow (.inl ho26) (Nat.le_refl _)).mono (F' := fun b => wr.heap.size ≤ b) (fun b _ hb => Nat.le_trans (Chg.size (S := NoB) (by repeat (first | exact HB.out | (with_reducible apply Chg.drew) | (with_reducible apply Chg.alloc)))) hb))
           have HO21b := As.mk (HO21.out.keep (Chg.trans (S := NoB) (by repeat (first | exact Chg.refl _ _ | (with_reducible apply Chg.drew) | (with_reducible apply Chg.alloc))) hc26 (fun _ _ e => e)))
           have HB26 : As (Chg NoB wr w26) := ⟨Chg.trans (by repeat (first | exact HB.out | (with_reducible apply Chg.drew) | (with_reducible apply Chg.alloc))) hc26 (fun _ _ e => e)⟩
           clear HB hc26 ho26 HO21
           have HB := HB26
           clear HB26)
        | (refine step_append_s (N := 29) rfl rfl _ _ 23 rfl 55 3 (.agg #[.int .u8 0, .slice none 0 0, .slice none 0 0]) 56 Tryd.underlying23 infoImplSub rfl (by decide) (by decide) rv w.heap.size k (vs.flatMap (Sv.cells .u8)) _ 1 [.int .u8 st, .slice A21 n1 c21, .slice A26 n2 c26] rfl rfl ?k1 rfl ?k2 (by simp [Value.oneCell']) ?k4 ?k5 ?_
           case k1 => exact row_keep HVO.out (by repeat (first | exact HB.out | (with_reducible apply Chg.drew) | (with_reducible apply Chg.alloc)))
           case k2 => exact (Blk.new w26 _ [.int .u8 st, .slice A21 n1 c21, .slice A26 n2 c26]).news
           case k4 => exact Nat.le_trans HC'.out.size (Chg.size (S := NoB) (by repeat (first | exact HB.out | (with_reducible apply Chg.drew) | (with_reducible apply Chg.alloc))))
           case k5 => omega
           intro v2 w2 h2 h3 h5
           have hal : Chg NoB w26 _ := (Chg.refl NoB w26).alloc (.cells #[.int .u8 st, .slice A21 n1 c21, .slice A26 n2 c26] 55)
           have HSV2 := As.mk (Svs.snoc (l := l.take k) (s := ⟨st, A21, n1, c21, A26, n2, c26⟩) (it := it) HVL.out (by rw [HLK.out]; exact row_keep HVO.out (HB.out.trans hal (fun _ _ e => e))) (fun i p it a b => (HVI.out i p it a b).chg (HB.out.trans hal (fun _ _ e => e)) (fun _ _ _ e => e))
             ⟨HIS.out.t, HIS.out.n1, HIS.out.n2, (HO21b.out.keep hal).mono (fun b _ hb e => absurd (HRB.out b e).2 (by omega)), (HO26.out.keep hal).mono (fun b _ hb e => absurd (HRB.out b e).2 (by omega))⟩
             (by rw [HLK.out]; exact h2) h3 h5)
           have HC2 := As.mk ((((HC'.out.trans HB.out (fun _ _ e => e)).trans hal (fun _ _ e => e))).trans (S' := fun b => rv.ownBlock = some b) (grown_chg h3) (fun i hi e => absurd (HRB.out i e).1 (by omega)))
           have HBF := As.mk (((HB.out.trans hal (fun _ _ e => e)).mono (S' := fun b => w.heap.size ≤ b) (fun _ _ e => e.elim)).trans (S' := fun b => rv.ownBlock = some b) (w := wr) (grown_chg h3) (fun i hi e => (HRB.out i e).1))
           clear h2 h3 h5 hal HB))
      all_goals
        go_wp2_with fail
        go_roundw
        case rel => exact ⟨k + 1, _, rfl, by go_num, by omega, ⟨by rw [HTK.out]; exact HSV2.out⟩, HC2⟩
        case measure => simp [intOf]; omega
    · obtain rfl : k = n := by omega
      go_wp2_with fail
      go_ret
      exact ⟨_, rfl, HC'.out, by have := HSV.out; rwa [List.take_of_length_le (by have := HN.out; omega)] at this⟩
end Go.Proofs.YthambncffcphkaaDoor
