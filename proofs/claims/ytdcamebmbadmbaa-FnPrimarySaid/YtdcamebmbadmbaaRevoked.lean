/- openpgp.revoked, Entity.Revoked and impl.Revoked: whether one of some signatures was made by then. -/
import Derived.Test.YtdcamebmbadmbaaSigExp
import Derived.Test.YtdcamebmbadmbaaMany
import Derived.StillTailTactics
set_option linter.unusedVariables false
set_option linter.unusedSimpArgs false
namespace Go.Proofs.Ytdcamebmbadmbaa
open Go.RowKit V
/-- One of the signatures was made by then. -/
def anyBy (l : List (Int × Int)) (nw : Int) : Bool := l.any fun p => decide (p.2 ≤ nw)
theorem anyBy_snoc (l : List (Int × Int)) (p : Int × Int) (nw : Int) : anyBy (l ++ [p]) nw = (anyBy l nw || decide (p.2 ≤ nw)) := by simp [anyBy]
theorem anyBy_mem {l : List (Int × Int)} {p : Int × Int} {nw : Int} {k : Nat} (h : l[k]? = some p) (hp : p.2 ≤ nw) : anyBy l nw = true := by
  simp only [anyBy, List.any_eq_true, decide_eq_true_eq]
  exact ⟨p, List.mem_of_getElem? h, hp⟩
set_option maxRecDepth 100000 in
set_option maxHeartbeats 4000000 in
theorem revoked_any (base : Nat) (v : Value) (l : List (Int × Int)) (nw : Int) (w : World) (hv : MRow w base v l) (hl : l.length ≤ 1000000) (ht : ∀ p ∈ l, 0 ≤ p.2 ∧ p.2 ≤ 4294967296) (m0 : 0 ≤ nw) (m1 : nw ≤ 4294967296) :
    Calls Try.prog 16 #[v, .agg (tmCells nw).toArray] w fun e w' => e = .returned (.bool (anyBy l nw)) ∧ Chg NoB w w' := by
  have HV := As.mk hv
  obtain ⟨A, c, rfl, hlc, hl63, _⟩ := hv.at_
  have HT := As.mk ht
  obtain ⟨n, hn⟩ : ∃ n, n = l.length := ⟨_, rfl⟩
  rw [← hn] at hlc hl hl63
  have HN := As.mk hn
  clear hv ht
  rw [← hn]
  clear hn
  have q0 : (tmCells nw)[0]? = some (.int .u64 0) := rfl
  go_enter Try.func16, Try.ntmps16
  go_upto_region 1 with fail
  obtain ⟨b, hb⟩ : ∃ b, b = w.heap.size := ⟨_, rfl⟩
  simp only [← hb]
  refine wp_world (fun w' => Blk w' b 70 (tmCells nw) ∧ Chg NoB w w') ?hs ?_
  case hs => exact ⟨by rw [hb]; exact Blk.new w _ (tmCells nw), (Chg.refl _ _).alloc _⟩
  intro wc hw
  have HB := As.mk hw.1
  have HC := As.mk hw.2
  clear hw q0 hb
  go_wp2
  go_loopw [6, 9] (fun _ i w' => ∃ (k : Nat), i = .int .i64 k ∧ k ≤ n ∧ As (anyBy (l.take k) nw = false) ∧ As (Chg NoB wc w')) (fun _ i _ => n - (intOf i).toNat)
  case atStart => exact ⟨0, rfl, Nat.zero_le _, ⟨rfl⟩, ⟨Chg.refl _ _⟩⟩
  case round =>
    obtain ⟨k, rfl, hk, HA, HC'⟩ := hrel
    by_cases hlt : k < n
    · have hltz : (k : Int) < (n : Int) := by omega
      have HIT : As (l[k]? = some (l[k]'(by have := HN.out; omega))) := ⟨List.getElem?_eq_getElem _⟩
      have HTK : As (l.take (k + 1) = l.take k ++ [l[k]'(by have := HN.out; omega)]) := ⟨List.take_succ_eq_append_getElem _⟩
      have HP := As.mk (HT.out _ (List.getElem_mem (by have := HN.out; omega) : l[k]'(by have := HN.out; omega) ∈ l))
      generalize l[k]'(by have := HN.out; omega) = it at *
      obtain ⟨kd, tm⟩ := it
      obtain ⟨_, _, e1, _, _, hat⟩ := ((HV.out.keep HC.out).keep HC'.out).at_
      injection e1 with e1 e2 e3
      obtain ⟨g, q, eA, hcp, hbq⟩ := hat k _ HIT.out
      rw [← e1] at eA
      subst eA
      have HBQ := As.mk hbq
      have c49 : wr.cell? ⟨q, 49, none⟩ = some (.pointer none) := hbq.cell 49
      have c30 : wr.cell? ⟨b, 0, none⟩ = some (.int .u64 0) := (HB.out.chg HC'.out (fun e => e)).cell 0
      have c31 : wr.cell? ⟨b, 1, none⟩ = some (.int .i64 (nw + 62135596800)) := (HB.out.chg HC'.out (fun e => e)).cell 1
      have c32 : wr.cell? ⟨b, 2, none⟩ = some (.pointer none) := (HB.out.chg HC'.out (fun e => e)).cell 2
      clear hat hbq e1 e2 e3
      go_wp2_with fail
      refine (sigExpired_any q kd tm nw (.pointer none) _ HBQ.out HP.out.1 HP.out.2 m0 m1).mono ?_
      rintro e w2 ⟨rfl, hc2⟩
      have HC2 := As.mk (HC'.out.trans hc2 (fun _ _ e => e))
      clear hc2 c30 c31 c32 c49 hcp
      by_cases hnt : nw < tm
      · have hnd : decide (nw < tm) = true := by simpa using hnt
        go_wp2_with fail
        go_roundw
        case rel => exact ⟨k + 1, by simp, by omega, ⟨by rw [HTK.out, anyBy_snoc, HA.out]; simp; omega⟩, HC2⟩
        case measure => show n - ((k : Int) + 1).toNat < n - ((k : Int)).toNat; omega
      · have hnd : decide (nw < tm) = false := by simpa using hnt
        have HR := As.mk (anyBy_mem (nw := nw) HIT.out (by simp; omega))
        go_wp2_with fail
        go_ret
        exact ⟨by rw [HR.out]; rfl, HC.out.trans HC2.out (fun _ _ e => e)⟩
    · have hz : ¬ ((k : Int) < (n : Int)) := by omega
      have hkn : k = n := by omega
      have HF : As (anyBy l nw = false) := ⟨by have h := HA.out; rwa [hkn, HN.out, List.take_length] at h⟩
      clear hkn
      go_wp2_with fail
      go_ret
      exact ⟨by rw [HF.out]; rfl, HC.out.trans HC'.out (fun _ _ e => e)⟩
set_option maxRecDepth 100000 in
set_option maxHeartbeats 2000000 in
theorem entRevoked_any (g base : Nat) (v : Value) (l : List (Int × Int)) (nw : Int) (w : World) (c3 : w.cell? ⟨g, 3, none⟩ = some v) (hv : MRow w base v l) (hl : l.length ≤ 1000000) (ht : ∀ p ∈ l, 0 ≤ p.2 ∧ p.2 ≤ 4294967296) (m0 : 0 ≤ nw) (m1 : nw ≤ 4294967296) :
    Calls Try.prog 10 #[.pointer (some ⟨g, 0, none⟩), .agg (tmCells nw).toArray] w fun e w' => e = .returned (.bool (anyBy l nw)) ∧ Chg NoB w w' := by
  have HV := As.mk hv
  obtain ⟨A, c, rfl, hlc, hl63, _⟩ := hv.at_
  have HT := As.mk ht
  clear hv ht
  have glt := World.block_lt_of_cell? w _ c3
  go_enter Try.func10, Try.ntmps10
  go_upto_region 1 with fail
  obtain ⟨b, hb⟩ : ∃ b, b = w.heap.size := ⟨_, rfl⟩
  simp only [← hb]
  refine wp_world (fun w' => w'.cell? ⟨g, 3, none⟩ = some (.slice A l.length c) ∧ Blk w' b 70 (tmCells nw) ∧ Chg NoB w w') ?hs ?_
  case hs => exact ⟨(((Chg.refl NoB w).alloc _).cell (p := ⟨g, 3, none⟩) glt (fun e => e)).trans c3, by rw [hb]; exact Blk.new w _ (tmCells nw), (Chg.refl _ _).alloc _⟩
  intro wc hw
  clear c3 glt
  have d3 := hw.1
  have HB := As.mk hw.2.1
  have HC := As.mk hw.2.2
  clear hw hb
  have c30 : wc.cell? ⟨b, 0, none⟩ = some (.int .u64 0) := HB.out.cell 0
  have c31 : wc.cell? ⟨b, 1, none⟩ = some (.int .i64 (nw + 62135596800)) := HB.out.cell 1
  have c32 : wc.cell? ⟨b, 2, none⟩ = some (.pointer none) := HB.out.cell 2
  go_still_tail 5, (by kernel_rfl)
  change wpList _ _ _ _ _ (World.drew wc)
  go_wp2_with fail
  refine (revoked_any base (.slice A l.length c) l nw _ ((HV.out.keep HC.out).keep ((Chg.refl NoB wc).drew)) hl HT.out m0 m1).mono ?_
  rintro e w2 ⟨rfl, hc2⟩
  have HC2 : As (Chg NoB w w2) := ⟨HC.out.trans (((Chg.refl NoB wc).drew).trans hc2 (fun _ _ e => e)) (fun _ _ e => e)⟩
  clear hc2
  go_wp2_with fail
  go_ret
  exact ⟨rfl, HC2.out⟩
set_option maxRecDepth 100000 in
set_option maxHeartbeats 2000000 in
theorem implRevoked_any (base : Nat) (v : Value) (l : List (Int × Int)) (nw : Int) (w : World) (hv : SRow w base v l) (hl : l.length ≤ 1000000) (ht : ∀ p ∈ l, 0 ≤ p.2 ∧ p.2 ≤ 4294967296) (m0 : 0 ≤ nw) (m1 : nw ≤ 4294967296) :
    Calls Try.prog 6 #[v, .int .u64 nw] w fun e w' => e = .returned (.bool (anyBy l nw)) ∧ Chg NoB w w' := by
  have e1 : IntKind.i64.wrap nw = nw := by rw [IntKind.wrap_i64]; omega
  have HV := As.mk hv
  have HT := As.mk ht
  clear hv ht
  go_enter Try.func6, Try.ntmps6
  go_wp2_with fail
  refine (many_any base v l _ HV.out hl HT.out).mono ?_
  rintro e w1 ⟨u, rfl, hc1, hm1⟩
  have HM := As.mk hm1
  have HC1 := As.mk hc1
  obtain ⟨A, c, rfl, hlc, hl63, _⟩ := hm1.at_
  clear hm1 hc1
  go_upto_region 2 with fail
  obtain ⟨g, hg⟩ : ∃ g, g = w1.heap.size := ⟨_, rfl⟩
  simp only [← hg]
  refine wp_world (fun w' => w'.cell? ⟨g, 3, none⟩ = some (.slice A l.length c) ∧ Chg NoB w1 w') ?hs ?_
  case hs =>
    refine ⟨?_, (Chg.refl _ _).alloc _⟩
    rw [hg, cell_of_row _ _ 3 _ _ _ (heap_alloc_new w1 _)]
    rfl
  intro wc hw
  have d3 := hw.1
  have HC := As.mk (HC1.out.trans hw.2 (fun _ _ e => e))
  have HM2 := As.mk (HM.out.keep hw.2)
  clear hw hg HC1 HM
  go_wp2_with fail
  refine (unix_any nw _ m0 m1).mono ?_
  rintro e w2 ⟨rfl, hc2⟩
  have glt := World.block_lt_of_cell? wc _ d3
  have d4 : w2.cell? ⟨g, 3, none⟩ = some (.slice A l.length c) := (hc2.cell (p := ⟨g, 3, none⟩) glt (fun e => e)).trans d3
  have HM3 := As.mk (HM2.out.keep hc2)
  have HC2 := As.mk (HC.out.trans hc2 (fun _ _ e => e))
  clear hc2 d3 glt HM2 HC
  go_wp2_with fail
  refine (entRevoked_any g w.heap.size (.slice A l.length c) l nw _ d4 HM3.out hl HT.out m0 m1).mono ?_
  rintro e w3 ⟨rfl, hc3⟩
  have HC3 := As.mk (HC2.out.trans hc3 (fun _ _ e => e))
  clear hc3
  go_wp2_with fail
  go_ret
  exact ⟨rfl, HC3.out⟩
end Go.Proofs.Ytdcamebmbadmbaa
