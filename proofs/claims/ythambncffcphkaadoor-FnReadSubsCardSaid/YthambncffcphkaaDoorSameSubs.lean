/- The contract of laws.sameSubs, where both lists are the same. -/
import Derived.Test.YthambncffcphkaaDoorBase
import Derived.Test.YthambncffcphkaaDoorRow
import Derived.Deep.DeepCutAuto
set_option linter.unusedVariables false
set_option linter.unusedSimpArgs false
namespace Go.Proofs.YthambncffcphkaaDoor
open Go.RowKit V
set_option maxRecDepth 100000 in
set_option maxHeartbeats 4000000 in
theorem sameSubs_yes (B1 B2 : Nat) (v1 v2 : Value) (l : List SubIt) (w : World) (h1 : Svs w B1 55 .u8 v1 l) (h2 : Svs w B2 51 .i64 v2 l) (hl : l.length ≤ 1048576) (hby : ∀ it ∈ l, 0 ≤ it.1 ∧ it.1 ≤ 255) :
    Calls Tryd.prog 7 #[v1, v2] w fun e w' => e = .returned (.bool true) ∧ Chg NoB w w' := by
  have H1 := As.mk h1
  have H2 := As.mk h2
  obtain ⟨A1, c1, rfl, hc1, hm, _⟩ := h1.at_
  obtain ⟨A2, c2, rfl, hc2, _, _⟩ := h2.at_
  have HBY := As.mk hby
  obtain ⟨n, hn⟩ : ∃ n, n = l.length := ⟨_, rfl⟩
  rw [← hn] at hc1 hc2 hl hm
  have HN := As.mk hn
  clear h1 h2 hby
  rw [← hn]
  clear hn
  go_enter Tryd.func7, Tryd.ntmps7
  go_wp2
  go_loopw [14] (fun i w' => ∃ (k : Nat), i = .int .i64 k ∧ k ≤ n ∧ As (Chg NoB w w')) (fun i _ => n - (intOf i).toNat)
  case atStart => exact ⟨0, rfl, Nat.zero_le _, ⟨Chg.refl _ _⟩⟩
  case round =>
    obtain ⟨k, rfl, hk, HC'⟩ := hrel
    by_cases hlt : k < n
    · have HIT : As (l[k]? = some (l[k]'(by have := HN.out; omega))) := ⟨List.getElem?_eq_getElem _⟩
      have HBK := As.mk (HBY.out _ (List.getElem_mem (by have := HN.out; omega) : l[k]'(by have := HN.out; omega) ∈ l))
      generalize l[k]'(by have := HN.out; omega) = it at *
      obtain ⟨_, _, e1, _, _, hat1⟩ := (H1.out.keep HC'.out).at_
      injection e1 with e1 e2 e3
      obtain ⟨g1, s1, eA1, _, _, his1, x0, x1, x2⟩ := hat1 k it HIT.out
      rw [← e1] at eA1
      subst eA1
      obtain ⟨_, _, e1', _, _, hat2⟩ := (H2.out.keep HC'.out).at_
      injection e1' with e1' e2' e3'
      obtain ⟨g2, s2, eA2, _, hg2, his2, y0, y1, y2⟩ := hat2 k it HIT.out
      rw [← e1'] at eA2
      subst eA2
      obtain ⟨t1, P1, m1, d1, Q1, r1, f1⟩ := s1
      obtain ⟨t2, P2, m2, d2, Q2, r2, f2⟩ := s2
      have HI1 := As.mk his1
      have HI2 := As.mk his2
      obtain rfl : t1 = t2 := his1.t.trans his2.t.symm
      have ht1 : t1 = it.1 := his1.t
      have hb0 : 0 ≤ t1 := by have := HBK.out.1; omega
      have hb1 : t1 ≤ 255 := by have := HBK.out.2; omega
      have hne : (t1 != t1) = false := by simp
      clear ht1 hat1 hat2 his1 his2 e1 e2 e3 e1' e2' e3'
      go_upto_region 6 with fail
      obtain ⟨wA, hwA⟩ : ∃ wA, wA = wr.alloc (.cells #[.int .u8 t1, .slice P1 m1 d1, .slice Q1 r1 f1] 55) := ⟨_, rfl⟩
      have hca : Chg NoB wr wA := by rw [hwA]; exact (Chg.refl _ _).alloc _
      have ba : Blk wA wr.heap.size 55 [.int .u8 t1, .slice P1 m1 d1, .slice Q1 r1 f1] := by rw [hwA]; exact Blk.new wr _ [.int .u8 t1, .slice P1 m1 d1, .slice Q1 r1 f1]
      rw [← hwA]
      clear hwA x0 x1 x2
      have z0 := ba.cell 0
      have z1 := ba.cell 1
      have z2 := ba.cell 2
      simp only [List.getElem?_cons_zero, List.getElem?_cons_succ] at z0 z1 z2
      have y0A := (hca.cell (p := ⟨g2, k * 3, none⟩) hg2 (fun e => e)).trans y0
      have y1A := (hca.cell (p := ⟨g2, k * 3 + 1, none⟩) hg2 (fun e => e)).trans y1
      have y2A := (hca.cell (p := ⟨g2, k * 3 + 2, none⟩) hg2 (fun e => e)).trans y2
      have HCA := As.mk (HC'.out.trans hca (fun _ _ e => e))
      have R1 := As.mk (HI1.out.r1.keep hca).1
      have R2 := As.mk (HI2.out.r1.keep hca).1
      have S1 := As.mk (HI1.out.r2.keep hca).1
      have S2 := As.mk (HI2.out.r2.keep hca).1
      clear ba hca y0 y1 y2
      go_quiet ((first
        | (go_at_call_of 17 (Value.slice P1 m1 d1); exact Calls.quiet_of (same_yes P1 m1 d1 it.2.1 P2 m2 d2 _ HI1.out.n1 HI2.out.n1 R1.out R2.out))
        | (go_at_call_of 17 (Value.slice Q1 r1 f1); exact Calls.quiet_of (same_yes Q1 r1 f1 it.2.2 Q2 r2 f2 _ HI1.out.n2 HI2.out.n2 S1.out S2.out))))
      go_wp2_with fail
      go_roundw
      case rel => exact ⟨k + 1, by go_num, by omega, ⟨HCA.out.drewN _⟩⟩
      case measure => simp [intOf]; omega
    · obtain rfl : k = n := by omega
      go_wp2_with fail
      go_ret
      exact ⟨rfl, HC'.out⟩
end Go.Proofs.YthambncffcphkaaDoor
