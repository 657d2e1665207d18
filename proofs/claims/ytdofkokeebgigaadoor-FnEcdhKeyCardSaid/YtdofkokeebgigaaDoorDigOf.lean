/- The contracts of impl.digestOf, Hash.Right, spec.RightHash, laws.zzFits10. -/
import Derived.Test.YtdofkokeebgigaaDoorDig
import Derived.Deep.RegionHeld3
import Derived.Deep.DeepCutAuto
set_option linter.unusedVariables false
set_option linter.unusedSimpArgs false
namespace Go.Proofs.YtdofkokeebgigaaDoor
open Go.RowKit V
/-- What digestOf answers. -/
def DigOf (w : World) (n : Nat) (sub mask : List Int) (e : Ending) (w' : World) : Prop :=
  Chg NoB w w' ∧ ∃ (B0 B1 d : Nat) (SA : Option Addr) (sc : Nat) (MA : Option Addr) (mc : Nat), e = .returned (.pointer (some ⟨d, 0, none⟩)) ∧ w.heap.size ≤ B0 ∧ B1 ≤ w'.heap.size ∧ Dw w' B0 B1 d n SA sc MA mc sub mask
/-- .. and its state. -/
def DigOfS (w : World) (n : Nat) (sub mask : List Int) (e : Ending) (w' : World) : Prop :=
  Chg NoB w w' ∧ ∃ (B0 B1 d : Nat) (SA : Option Addr) (sc : Nat) (MA : Option Addr) (mc g c : Nat), e = .returned (.pointer (some ⟨d, 0, none⟩)) ∧ w.heap.size ≤ B0 ∧ B1 ≤ w'.heap.size ∧ B1 ≤ g ∧ Ds w' B0 B1 d n SA sc MA mc sub mask g c (mask, 0)
set_option maxRecDepth 100000 in
set_option maxHeartbeats 4000000 in
theorem digestOf_s (SA0 : Option Addr) (sc0 : Nat) (MA0 : Option Addr) (n mc0 : Nat) (sub mask : List Int) (w : World) (hs : sub.length = 256) (hm : mask.length = n) (n1 : 1 ≤ n) (n2 : n ≤ 64) (rs : Rb w SA0 sub) (rm : Rb w MA0 mask) (bs : Byt sub) (bm : Byt mask) :
    Calls Tryd.prog 15 #[.agg #[.slice SA0 256 sc0, .slice MA0 n mc0]] w (DigOfS w n sub mask) := by
  have RS := As.mk rs
  have RM := As.mk rm
  have HLS : As (256 = sub.length) := ⟨hs.symm⟩
  have HLM : As (n = mask.length) := ⟨hm.symm⟩
  have HBY := As.mk (And.intro bs bm)
  clear rs rm hs hm bs bm
  go_enter Tryd.func15, Tryd.ntmps15
  go_upto_region 1 with fail
  obtain ⟨w1, hw1⟩ : ∃ w1, w1 = w.alloc (.cells #[.slice SA0 256 sc0, .slice MA0 n mc0] 24) := ⟨_, rfl⟩
  have C1 : As (Chg NoB w w1) := ⟨by rw [hw1]; exact (Chg.refl NoB w).alloc _⟩
  have b1 : Blk w1 w.heap.size 24 [.slice SA0 256 sc0, .slice MA0 n mc0] := by rw [hw1]; exact Blk.new w _ [.slice SA0 256 sc0, .slice MA0 n mc0]
  have BK1 := As.mk b1
  rw [← hw1]
  clear hw1
  have KQ : As (∀ w', Chg NoB w1 w' → w'.cell? ⟨w.heap.size, 0, none⟩ = some (.slice SA0 256 sc0) ∧ w'.cell? ⟨w.heap.size, 1, none⟩ = some (.slice MA0 n mc0)) := ⟨fun w' h => by
    have b := BK1.out.chg h (fun e => e)
    exact ⟨b.cell 0, b.cell 1⟩⟩
  have hq := KQ.out _ (Chg.refl _ _)
  have q0 := hq.1
  have q1 := hq.2
  have HB : As (Chg NoB w1 w1) := ⟨Chg.refl _ _⟩
  clear b1 hq
  go_cut [3] (fun s3 wx => ∃ (d : Nat) (SA : Option Addr) (sc : Nat) (MA : Option Addr) (mc : Nat), s3 = .pointer (some ⟨d, 0, none⟩) ∧ As (Chg NoB w wx) ∧ As (w.heap.size ≤ d) ∧ As (Dw wx w.heap.size wx.heap.size d n SA sc MA mc sub mask))
  case first =>
    go_region_held3 (fun w' => w'.cell? ⟨w.heap.size, 0, none⟩ = some (.slice SA0 256 sc0) ∧ w'.cell? ⟨w.heap.size, 1, none⟩ = some (.slice MA0 n mc0)) (exact KQ.out _ (by repeat (first | (with_reducible exact HB.out) | (with_reducible apply Chg.drew) | (with_reducible apply Chg.alloc)))) (first
      | (refine step_append_e (N := 6) rfl rfl _ _ 22 rfl 5 .u8 1 Tryd.underlying22 info8 (by decide) none (w.heap.size + 1) sub SA0 256 sc0 rfl rfl HLS.out ((RS.out.keep C1.out).keep ?r1) ?r2 ?r3 ?_
         case r1 => exact (by repeat (first | (with_reducible exact HB.out) | (with_reducible apply Chg.drew) | (with_reducible apply Chg.alloc)))
         case r2 => exact Nat.le_trans BK1.out.lt (Chg.size (S := NoB) (by repeat (first | (with_reducible exact HB.out) | (with_reducible apply Chg.drew) | (with_reducible apply Chg.alloc))))
         case r3 => (have := HLS.out; omega)
         intro v6 w6 ho6 hc6
         obtain ⟨A6, c6, hv6, _, _⟩ := ow_form ho6
         rw [← HLS.out] at hv6
         subst hv6
         have HO6 := As.mk (Rf.of_ow ho6 (Nat.le_refl _))
         have HB6 : As (Chg NoB w1 w6) := ⟨Chg.trans (by repeat (first | (with_reducible exact HB.out) | (with_reducible apply Chg.drew) | (with_reducible apply Chg.alloc))) hc6 (fun _ _ e => e)⟩
         clear HB ho6 hc6
         have HB := HB6
         clear HB6)
      | (refine step_append_e (N := 9) rfl rfl _ _ 22 rfl 5 .u8 1 Tryd.underlying22 info8 (by decide) none (w.heap.size + 1) mask MA0 n mc0 rfl rfl HLM.out ((RM.out.keep C1.out).keep ?r1) ?r2 ?r3 ?_
         case r1 => exact (by repeat (first | (with_reducible exact HB.out) | (with_reducible apply Chg.drew) | (with_reducible apply Chg.alloc)))
         case r2 => exact Nat.le_trans BK1.out.lt (Chg.size (S := NoB) (by repeat (first | (with_reducible exact HB.out) | (with_reducible apply Chg.drew) | (with_reducible apply Chg.alloc))))
         case r3 => (have := HLM.out; omega)
         intro v9 w9 ho9 hc9
         obtain ⟨A9, c9, hv9, _, _⟩ := ow_form ho9
         rw [← HLM.out] at hv9
         subst hv9
         have HO9 := As.mk (Rf.of_ow ho9 (Nat.le_refl _))
         have HO6b := As.mk (HO6.out.keep (Chg.trans (S := NoB) (by repeat (first | exact Chg.refl _ _ | (with_reducible apply Chg.drew) | (with_reducible apply Chg.alloc))) hc9 (fun _ _ e => e)))
         have HB9 : As (Chg NoB w1 w9) := ⟨Chg.trans (by repeat (first | (with_reducible exact HB.out) | (with_reducible apply Chg.drew) | (with_reducible apply Chg.alloc))) hc9 (fun _ _ e => e)⟩
         clear HB ho9 hc9
         have HB := HB9
         clear HB9))
    all_goals
      go_wp2_with fail
      go_meet
      have hal : Chg NoB w9 (w9.alloc (.cells #[.slice A6 256 c6, .slice A9 n c9, .slice none 0 0, .int .i64 0] 66)) := (Chg.refl NoB w9).alloc _
      have hz : (w9.alloc (.cells #[.slice A6 256 c6, .slice A9 n c9, .slice none 0 0, .int .i64 0] 66)).heap.size = w9.heap.size + 1 := Array.size_push _
      have hsz : w.heap.size ≤ w9.heap.size := Nat.le_trans C1.out.size HB.out.size
      refine ⟨w9.heap.size, A6, c6, A9, c9, rfl, ⟨(C1.out.trans HB.out (fun _ _ e => e)).trans hal (fun _ _ e => e)⟩, ⟨hsz⟩, ⟨⟨(HO6b.out.mono (F' := fun b => w.heap.size ≤ b ∧ b < w9.heap.size) (fun b hb h => ⟨by omega, hb⟩)).keep hal |>.mono (fun b _ hb => ⟨hb.1, by omega, by omega⟩), (HO9.out.mono (F' := fun b => w.heap.size ≤ b ∧ b < w9.heap.size) (fun b hb h => ⟨by omega, hb⟩)).keep hal |>.mono (fun b _ hb => ⟨hb.1, by omega, by omega⟩), by omega, hsz, HLS.out.symm, HLM.out.symm, HBY.out.1, HBY.out.2, n1, n2⟩, _, _, Blk.new w9 _ [.slice A6 256 c6, .slice A9 n c9, .slice none 0 0, .int .i64 0]⟩⟩
  case rest =>
    obtain ⟨d, SA, sc, MA, mc, rfl, CX, HD, HDW⟩ := hcut
    clear q0 q1
    go_wp2_with fail
    refine (reset_any w.heap.size wc.heap.size d n SA sc MA mc sub mask _ HDW.out (Nat.le_refl _)).mono ?_
    rintro e w2 ⟨rfl, hc2, g, c, hds, hg⟩
    have HC2 := As.mk hc2
    have HDS := As.mk (And.intro hds hg)
    clear hc2 hds hg
    go_wp2_with fail
    go_ret
    refine ⟨CX.out.trans (S' := fun b => b = d) HC2.out (fun i hi e => by have := HD.out; omega), w.heap.size, wc.heap.size, d, SA, sc, MA, mc, g, c, rfl, Nat.le_refl _, HC2.out.size, HDS.out.2, HDS.out.1⟩
theorem digestOf_any (SA0 : Option Addr) (sc0 : Nat) (MA0 : Option Addr) (n mc0 : Nat) (sub mask : List Int) (w : World) (hs : sub.length = 256) (hm : mask.length = n) (n1 : 1 ≤ n) (n2 : n ≤ 64) (rs : Rb w SA0 sub) (rm : Rb w MA0 mask) (bs : Byt sub) (bm : Byt mask) :
    Calls Tryd.prog 15 #[.agg #[.slice SA0 256 sc0, .slice MA0 n mc0]] w (DigOf w n sub mask) :=
  (digestOf_s SA0 sc0 MA0 n mc0 sub mask w hs hm n1 n2 rs rm bs bm).mono fun e w' ⟨hc, B0, B1, d, SA, sc, MA, mc, g, c, he, h0, h1, _, hd⟩ => ⟨hc, B0, B1, d, SA, sc, MA, mc, he, h0, h1, hd.weak⟩
set_option maxHeartbeats 1000000 in
theorem fits_any (SA : Option Addr) (sn sc : Nat) (MA : Option Addr) (mn mc : Nat) (w : World) : Calls Tryd.prog 4 #[.agg #[.slice SA sn sc, .slice MA mn mc]] w fun e w' => e = .returned (.bool (decide (sn ≤ 2147483647 ∧ mn ≤ 2147483647))) ∧ Chg NoB w w' := by
  by_cases h1 : sn ≤ 2147483647
  · by_cases h2 : mn ≤ 2147483647
    · rw [decide_eq_true ⟨h1, h2⟩]
      go_enter Tryd.func4, Tryd.ntmps4
      go_wp2
      go_ret
      exact ⟨rfl, (Chg.refl NoB w).alloc _⟩
    · rw [decide_eq_false (fun h => h2 h.2)]
      have h3 : (2147483647 : Int) < (mn : Int) := by omega
      go_enter Tryd.func4, Tryd.ntmps4
      go_wp2
      go_ret
      exact ⟨rfl, (Chg.refl NoB w).alloc _⟩
  · rw [decide_eq_false (fun h => h1 h.1)]
    have h3 : (2147483647 : Int) < (sn : Int) := by omega
    go_enter Tryd.func4, Tryd.ntmps4
    go_wp2
    go_ret
    exact ⟨rfl, (Chg.refl NoB w).alloc _⟩
set_option maxHeartbeats 1000000 in
theorem right_yes (SA : Option Addr) (sc : Nat) (MA : Option Addr) (mn mc : Nat) (w : World) (h1 : 1 ≤ mn) (h2 : mn ≤ 64) : Calls Tryd.prog 12 #[.agg #[.slice SA 256 sc, .slice MA mn mc]] w fun e w' => e = .returned (.bool true) ∧ Chg NoB w w' := by
  have h3 : (1 : Int) ≤ (mn : Int) := by omega
  have h4 : (mn : Int) ≤ 64 := by omega
  go_enter Tryd.func12, Tryd.ntmps12
  go_wp2
  go_ret
  exact ⟨rfl, (Chg.refl NoB w).alloc _⟩
set_option maxHeartbeats 1000000 in
theorem rightHash_any (SA : Option Addr) (sn sc : Nat) (MA : Option Addr) (mn mc : Nat) (w : World) : Calls Tryd.prog 5 #[.agg #[.slice SA sn sc, .slice MA mn mc]] w fun e w' => e = .returned (.bool (decide (sn = 256 ∧ 1 ≤ mn ∧ mn ≤ 64))) ∧ Chg NoB w w' := by
  by_cases h0 : sn = 256
  · subst h0
    by_cases h1 : 1 ≤ mn
    · by_cases h2 : mn ≤ 64
      · rw [decide_eq_true ⟨rfl, h1, h2⟩]
        have h3 : (1 : Int) ≤ (mn : Int) := by omega
        have h4 : (mn : Int) ≤ 64 := by omega
        go_enter Tryd.func5, Tryd.ntmps5
        go_wp2
        go_ret
        exact ⟨rfl, (Chg.refl NoB w).alloc _⟩
      · rw [decide_eq_false (fun h => h2 h.2.2)]
        have h3 : (1 : Int) ≤ (mn : Int) := by omega
        have h4 : ¬ (mn : Int) ≤ 64 := by omega
        go_enter Tryd.func5, Tryd.ntmps5
        go_wp2
        go_ret
        exact ⟨by simp [h2], (Chg.refl NoB w).alloc _⟩
    · have : mn = 0 := by omega
      subst this
      rw [decide_eq_false (fun h => h1 h.2.1)]
      go_enter Tryd.func5, Tryd.ntmps5
      go_wp2
      go_ret
      exact ⟨rfl, (Chg.refl NoB w).alloc _⟩
  · have hb : ((sn : Int) == 256) = false := by simp; omega
    rw [decide_eq_false (fun h => h0 h.1)]
    clear h0
    go_enter Tryd.func5, Tryd.ntmps5
    go_wp2
    go_ret
    exact ⟨rfl, (Chg.refl NoB w).alloc _⟩
end Go.Proofs.YtdofkokeebgigaaDoor
