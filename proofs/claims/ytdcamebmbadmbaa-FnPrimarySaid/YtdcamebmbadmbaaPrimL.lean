/- impl.Primary: the place of the identity of the greatest rank. -/
import Derived.Test.YtdcamebmbadmbaaPrimI
set_option linter.unusedVariables false
set_option linter.unusedSimpArgs false
namespace Go.Proofs.Ytdcamebmbadmbaa
open Go.RowKit V
theorem sizeHold : (Try.prog.info? 31).map (·.size) = some 14 := by kernel_rfl
theorem bytes_inj {a b : ByteArray} (h : a.toList = b.toList) : a = b := by
  rw [ByteArray.toList_eq, ByteArray.toList_eq] at h
  obtain ⟨⟨x⟩⟩ := a
  obtain ⟨⟨y⟩⟩ := b
  simpa using h
/-- The place of one of the greatest rank. -/
def TopAt (l : List Idn) (m : Nat) : Prop := ∃ i, l[m]? = some i ∧ ∀ j ∈ l, j.rank ≤ i.rank
set_option maxRecDepth 100000 in
set_option maxHeartbeats 4000000 in
theorem primary_any (base : Nat) (A : Option Addr) (n c : Nat) (l : List Idn) (w : World) (hv : IRow w base (.slice A n c) l) (hln : n = l.length) (hl : n ≤ 20) (hn0 : 0 < n) (hok : ∀ i ∈ l, i.Ok ∧ i.nm.size ≤ 1000) (ha : Apart l) (ht : l.Pairwise (fun i j => i.t ≠ j.t)) :
    Calls Try.prog 5 #[.agg (hCells (.slice A n c)).toArray] w fun e w' => ∃ m : Nat, e = .returned (.tuple #[.int .i64 m, .bool true]) ∧ TopAt l m ∧ Chg NoB w w' := by
  have HV := As.mk hv
  have HLN := As.mk hln
  have HOK := As.mk hok
  have HA := As.mk ha
  have HT := As.mk ht
  clear hv hln hok ha ht
  go_enter Try.func5, Try.ntmps5
  go_upto_region 1 with fail
  have HB := As.mk (Blk.new w 31 (hCells (.slice A n c)))
  obtain ⟨b, hb⟩ : ∃ b, b = w.heap.size := ⟨_, rfl⟩
  simp only [← hb]
  rw [← hb] at HB
  refine wp_world (fun w' => Blk w' b 31 (hCells (.slice A n c)) ∧ Chg NoB w w') ?hs ?_
  case hs => exact ⟨HB.out, (Chg.refl _ _).alloc _⟩
  intro wc hw
  have HBW := As.mk hw.1
  have HC := As.mk hw.2
  clear hw HB hb
  go_wp2_with ((with_reducible refine gate (N := 6) rfl ?_); refine wpList_load_row rfl 31 _ rfl b rfl 31 (hCells (.slice A n c)).toArray (0, 0) _ HBW.out Try.underlying31 rfl sizeHold ?_)
  refine (entity_any base A n c l _ (HV.out.keep HC.out) HLN.out hl HOK.out).mono ?_
  rintro e w1 ⟨ge, mb, gl, rfl, hgl, he, hi, hc1⟩
  have HGL := As.mk hgl
  have HE := As.mk he
  have HI := As.mk hi
  have HC1 := As.mk (HC.out.trans hc1 (fun _ _ e => e))
  have HB1 := As.mk (HBW.out.chg hc1 (fun e => e))
  clear hgl he hi hc1
  go_wp2_with fail
  refine (primaryIdentity_any ge mb l.length gl _ HE.out HI.out (by rw [HGL.out]; exact HA.out) (by rw [HGL.out]; exact HT.out) (fun q hq => (HOK.out q.2 (by rw [← HGL.out]; exact List.mem_map.2 ⟨q, hq, rfl⟩)).1) (fun e => by have := HGL.out; rw [e] at this; have h2 := HLN.out; rw [← this] at h2; simp at h2; omega)).mono ?_
  rintro e w2 ⟨⟨q, hq, rfl, hbest⟩, hc2⟩
  obtain ⟨m, hm⟩ : ∃ m, l[m]? = some q.2 := by
    obtain ⟨m, hm⟩ := List.getElem?_of_mem (List.mem_map.2 ⟨q, hq, rfl⟩ : q.2 ∈ gl.map Prod.snd)
    rw [HGL.out] at hm
    exact ⟨m, hm⟩
  have HM := As.mk hm
  have HTOP : As (TopAt l m) := ⟨⟨q.2, hm, fun j hj => by
    rw [← HGL.out] at hj
    obtain ⟨s, hs, rfl⟩ := List.mem_map.1 hj
    exact hbest s hs⟩⟩
  have hmn : m < n := by rw [HLN.out]; exact (List.getElem?_eq_some_iff.1 hm).1
  have HC2 := As.mk (HC1.out.trans hc2 (fun _ _ e => e))
  have HID := As.mk ((HI.out q hq).keep hc2)
  have HB2 := As.mk (HB1.out.chg hc2 (fun e => e))
  have i9 : w2.cell? ⟨b, 9, none⟩ = some (.slice A n c) := HB2.out.cell 9
  obtain ⟨qg, qi⟩ := q
  clear hq hbest hc2 hm
  have e1 : IntKind.i64.wrap ((n : Int) - 1) = ((n - 1 : Nat) : Int) := by rw [IntKind.wrap_i64]; omega
  go_wp2_with fail
  go_loopw [5] (fun iv w' => ∃ k : Nat, iv = .int .i64 k ∧ m ≤ k ∧ k < n ∧ As (Chg NoB w2 w')) (fun iv _ => (intOf iv).toNat)
  case atStart => exact ⟨n - 1, rfl, by omega, by omega, ⟨Chg.refl _ _⟩⟩
  case round =>
    obtain ⟨k, rfl, hmk, hkn, HCK⟩ := hrel
    have HIT : As (l[k]? = some (l[k]'(by have := HLN.out; omega))) := ⟨List.getElem?_eq_getElem _⟩
    generalize l[k]'(by have := HLN.out; omega) = it at *
    have HCW := As.mk (HC2.out.trans HCK.out (fun _ _ e => e))
    obtain ⟨_, _, e1, _, _, hat⟩ := (HV.out.keep HCW.out).at_
    injection e1 with e1 e2 e3
    obtain ⟨g, b1, b2, eA, hglt, hrg, _⟩ := hat k _ HIT.out
    rw [← e1] at eA
    subst eA
    have hnm : wr.cell? ⟨g, k * 4, none⟩ = some (.string it.nm) := by have := hrg 0 _ rfl; rwa [Nat.add_zero] at this
    have j9 : wr.cell? ⟨b, 9, none⟩ = some (.slice (some ⟨g, 0, none⟩) n c) := (HB2.out.chg HCK.out (fun e => e)).cell 9
    have hqn : wr.cell? ⟨qg, 0, none⟩ = some (.string qi.nm) := by
      obtain ⟨_, _, _, _, _, _, h1, _, _⟩ := HID.out
      exact (h1.chg HCK.out (fun e => e)).cell 0
    have hk0 : (0 : Int) ≤ (k : Int) := by omega
    have hkz : (k : Int) < (n : Int) := by omega
    clear hat hrg e1 e2 e3 i9
    by_cases hkm : k = m
    · have hit : it = qi := by
        have h1 := HIT.out
        rw [hkm, HM.out] at h1
        exact (Option.some.inj h1).symm
      have hnq : (it.nm.toList == qi.nm.toList) = true := by rw [hit]; simp
      have HKM := As.mk hkm
      clear hkm hit
      go_wp2_with fail
      go_quiet (fail)
      go_wp2_with fail
      go_ret2
      exact ⟨m, by rw [← HKM.out]; rfl, HTOP.out, (HCW.out.drewN _)⟩
    · have hne : it.nm ≠ qi.nm := by
        have hp := HA.out
        have hkl : k < l.length := by have := HLN.out; omega
        have hml : m < l.length := by have := HLN.out; omega
        have h1 := List.pairwise_iff_getElem.1 hp m k hml hkl (by omega)
        have h2 := HIT.out
        rw [List.getElem?_eq_getElem hkl] at h2
        have h3 := HM.out
        rw [List.getElem?_eq_getElem hml] at h3
        rw [Option.some.inj h2, Option.some.inj h3] at h1
        exact fun e => h1 e.symm
      have hnq : (it.nm.toList == qi.nm.toList) = false := by
        have h := beq_eq_false_iff_ne.2 (fun e => hne (bytes_inj e))
        exact h
      have e2 : IntKind.i64.wrap ((k : Int) - 1) = ((k - 1 : Nat) : Int) := by rw [IntKind.wrap_i64]; omega
      clear hne
      go_wp2_with fail
      go_quiet (fail)
      go_wp2_with fail
      go_roundw
      case rel => exact ⟨k - 1, rfl, by omega, by omega, ⟨HCK.out.drewN _⟩⟩
      case measure => show ((k - 1 : Nat) : Int).toNat < (k : Int).toNat; omega
end Go.Proofs.Ytdcamebmbadmbaa
