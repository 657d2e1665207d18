/- The contract of spec.Lines: the walk. -/
import Derived.Test.YtphnjfbaioblbaaDoorLines
import Derived.Deep.DeepMust
set_option linter.unusedVariables false
set_option linter.unusedSimpArgs false
namespace Go.Proofs.YtphnjfbaioblbaaDoor
open Go.RowKit V
theorem lines_pz {w : World} {A : Option Addr} {xs : List Int} (hr : Rb w A xs) (hA : ∀ ad, A = some ad → ad.block < w.heap.size) (f k : Nat) (hf : f ≤ k) (hk : k ≤ xs.length) :
    Pz (fun b => b < w.heap.size) w (if k = f then A else A.map (·.add f), k - f, k - f) ((xs.drop f).take (k - f)) := by
  refine ⟨by simp; omega, by simp; omega, ?_, fun ad e => ?_⟩
  · by_cases h : k = f
    · subst h
      simp only [if_true, Nat.sub_self, List.take_zero]
      exact hr.take_ 0
    · simp only [if_neg h]
      exact (hr.drop_ f).take_ (k - f)
  · by_cases h : k = f
    · simp only [if_pos h] at e; exact ⟨hA ad e, hA ad e⟩
    · simp only [if_neg h] at e
      cases A with
      | none => cases e
      | some a => simp at e; subst e; rw [add_block]; exact ⟨hA a rfl, hA a rfl⟩
theorem lines_pz_end {w : World} {A : Option Addr} {xs : List Int} (c : Nat) (hc : xs.length ≤ c) (hr : Rb w A xs) (hA : ∀ ad, A = some ad → ad.block < w.heap.size) (f : Nat) (hf : f ≤ xs.length) :
    Pz (fun b => b < w.heap.size) w (if c = f then A else A.map (·.add f), xs.length - f, c - f) (xs.drop f) := by
  refine ⟨by simp, by simp; omega, hr.drop_if f c hc, fun ad e => ?_⟩
  by_cases h : c = f
  · simp only [if_pos h] at e; exact ⟨hA ad e, hA ad e⟩
  · simp only [if_neg h] at e
    cases A with
    | none => cases e
    | some a => simp at e; subst e; rw [add_block]; exact ⟨hA a rfl, hA a rfl⟩
set_option maxRecDepth 100000 in
set_option maxHeartbeats 2000000 in
theorem lines_any (A : Option Addr) (n c : Nat) (xs : List Int) (w : World) (hn : n = xs.length) (hc : n ≤ c) (hm : n ≤ 1048576) (hr : Rb w A xs) (hA : ∀ ad, A = some ad → ad.block < w.heap.size) :
    Calls Tryd.prog 13 #[.slice A n c] w fun e w' => ∃ v, e = .returned v ∧ Rws (fun b => b < w.heap.size) w' w.heap.size 25 v (linesL xs) ∧ Chg NoB w w' := by
  have HR := As.mk hr
  have HN := As.mk hn
  have HA := As.mk hA
  clear hr hn hA
  go_enter Tryd.func13, Tryd.ntmps13
  go_wp2_with fail
  go_loopw [3, 4, 9] (fun v fv iv wr => ∃ (k f : Nat) (rv : Value) (acc : List (List Int)), rv = v ∧ fv = .int .i64 f ∧ iv = .int .i64 k ∧ k ≤ n ∧ f ≤ k ∧ As (LInv xs k f acc) ∧ As (Rws (fun b => b < w.heap.size) wr w.heap.size 25 rv acc) ∧ As (Chg NoB w wr)) (fun _ _ iv _ => n - (intOf iv).toNat)
  case atStart => exact ⟨0, 0, _, [], rfl, rfl, rfl, Nat.zero_le _, Nat.le_refl _, ⟨⟨Nat.le_refl _, rfl, Nat.le_refl _⟩⟩, ⟨Rws.nil _ _ _ _⟩, ⟨Chg.refl _ _⟩⟩
  case round =>
    obtain ⟨k, f, rv, acc, rfl, rfl, rfl, hk, hfk, HL, HO, HC⟩ := hrel
    obtain ⟨vr, hvl, hvo, hvi⟩ := HO.out
    have HRVB := As.mk HO.out.lt
    have HVL := As.mk hvl
    have HVO := As.mk hvo
    have HVI := As.mk hvi
    have HAC : As (acc.length ≤ 1048576) := ⟨by have := HL.out.2.2; omega⟩
    clear hvl hvo hvi
    by_cases hlt : k < n
    · have hkx : k < xs.length := by have := HN.out; omega
      obtain ⟨ad, rfl, hcell⟩ := (HR.out.keep HC.out).at_ k (by omega) (by omega)
      simp only [Int.toNat_natCast] at hcell
      have HST := As.mk (linv_step xs k f acc HL.out hkx)
      obtain ⟨y, hy⟩ : ∃ y, y = rd xs k := ⟨_, rfl⟩
      rw [← hy] at hcell HST
      clear hy
      have hkn : (k : Int) < (n : Int) := by omega
      by_cases h10 : y = 10
      · have HL2 : As (LInv xs (k + 1) (k + 1) (acc ++ [(xs.drop f).take (k - f)])) := ⟨by have h := HST.out; rwa [if_pos h10] at h⟩
        clear HST
        subst h10
        have HPZ := As.mk (lines_pz HR.out HA.out f k hfk (Nat.le_of_lt hkx))
        have hcut := cut_mid3 (P := Tryd.prog) 25 5 Tryd.underlying25 size8 (some ad) n c f k .i64 .i64 .i64 hfk (by omega)
        have e1 : IntKind.i64.wrap ((k : Int) + 1) = ((k + 1 : Nat) : Int) := by rw [IntKind.wrap_i64]; omega
        generalize (if k = f then some ad else (some ad).map (·.add f)) = A2 at hcut HPZ
        have HQ : As (((xs.drop f).take (k - f)).length = k - f) := ⟨HPZ.out.1.symm⟩
        generalize k - f = q at *
        clear hkx
        go_wp2_with (at_builtin; refine wpList_append_s rfl _ _ 22 rfl 25 1 (.slice none 0 0) 24 Tryd.underlying22 infoRow rfl (by decide) (by decide) rv w.heap.size acc.length (vr.map slV) ⟨wr.heap.size, 0, none⟩ 1 [.slice A2 q q] rfl rfl ?k1 rfl ?k2 (by simp [Value.oneCell']) ?k4 ?k5 ?_)
        (case k1 => exact row_keep HVO.out ((Chg.refl NoB wr).alloc _))
        try (case k2 => exact (Blk.new wr _ [.slice A2 q q]).news)
        (case k4 => exact Nat.le_trans HC.out.size (Nat.le_succ _))
        (case k5 => have := HAC.out; omega)
        intro v4 w4 h2 h3 h5
        have hal := (Chg.refl NoB wr).alloc (.cells #[.slice A2 q q] 25)
        have HS4 := As.mk (Rws.snoc (K := fun b => b < w.heap.size) (p := (A2, q, q)) (xs := (xs.drop f).take q) HVL.out (row_keep HVO.out hal) (fun i p it a b => (HVI.out i p it a b).chg hal (fun _ _ _ e => e)) ((HPZ.out.chg (HC.out.trans hal (fun _ _ e => e)) (fun _ _ _ e => e)).mono (fun b _ h => ⟨h, fun e => by have := (HRVB.out b e).1; omega⟩)) h2 h3 (h5.imp id (fun h => h.trans (congrArg some (Array.size_push _).symm))))
        have HC4 : As (Chg NoB w w4) := ⟨(HC.out.trans hal (fun _ _ e => e)).trans (grown_chg h3) (fun i hi e => by have := (HRVB.out i e).1; omega)⟩
        clear h2 h3 h5 hal
        go_wp2_with fail
        go_roundw
        case rel => exact ⟨k + 1, k + 1, _, _, rfl, rfl, by go_num, by omega, Nat.le_refl _, HL2, HS4, HC4⟩
        case measure => simp [intOf]; omega
      · have g1 : (y == 10) = false := by simpa using h10
        have HL2 : As (LInv xs (k + 1) f acc) := ⟨by have h := HST.out; rwa [if_neg h10] at h⟩
        go_wp2_with fail
        go_roundw
        case rel => exact ⟨k + 1, f, _, acc, rfl, rfl, by go_num, by omega, by omega, HL2, HO, HC⟩
        case measure => simp [intOf]; omega
    · obtain rfl : k = n := by omega
      have hkk : ¬ (k : Int) < (k : Int) := by omega
      clear hlt
      have HE : As (linesL xs = acc ++ [xs.drop f]) := ⟨linv_end xs f acc (by have h := HL.out; rwa [HN.out] at h)⟩
      have HPZ := As.mk (lines_pz_end c (by have := HN.out; omega) HR.out HA.out f (by have := HN.out; omega))
      rw [← HN.out] at HPZ
      have hcut : ∀ W : World, (Instr.slice 25 (.slice A k c) (some (.int .i64 f)) none none).run Tryd.prog W = .ok (.slice (if c = f then A else A.map (·.add f)) (k - f) (c - f)) W := fun W => by
        have h := run_cut_raw_from (P := Tryd.prog) 25 5 Tryd.underlying25 size8 A k c f .i64 (by omega) (by omega) W
        simpa only [Int.toNat_natCast] using h
      generalize (if c = f then A else A.map (·.add f)) = A2 at hcut HPZ
      generalize k - f = q at *
      generalize c - f = q2 at *
      go_wp2_with ((with_reducible refine gate (N := 32) rfl ?_); go_must (refine wpList_append_s rfl _ _ 22 rfl 25 1 (.slice none 0 0) 24 Tryd.underlying22 infoRow rfl (by decide) (by decide) rv w.heap.size acc.length (vr.map slV) ⟨wr.heap.size, 0, none⟩ 1 [.slice A2 q q2] rfl rfl ?m1 rfl ?m2 (by simp [Value.oneCell']) ?m4 ?m5 ?_))
      (case m1 => exact row_keep HVO.out ((Chg.refl NoB wr).alloc _))
      try (case m2 => exact (Blk.new wr _ [.slice A2 q q2]).news)
      (case m4 => exact Nat.le_trans HC.out.size (Nat.le_succ _))
      (case m5 => have := HAC.out; omega)
      intro v4 w4 h2 h3 h5
      have hal := (Chg.refl NoB wr).alloc (.cells #[.slice A2 q q2] 25)
      have HS4 := As.mk (Rws.snoc (K := fun b => b < w.heap.size) (p := (A2, q, q2)) (xs := xs.drop f) HVL.out (row_keep HVO.out hal) (fun i p it a b => (HVI.out i p it a b).chg hal (fun _ _ _ e => e)) ((HPZ.out.chg (HC.out.trans hal (fun _ _ e => e)) (fun _ _ _ e => e)).mono (fun b _ h => ⟨h, fun e => by have := (HRVB.out b e).1; omega⟩)) h2 h3 (h5.imp id (fun h => h.trans (congrArg some (Array.size_push _).symm))))
      have HC4 : As (Chg NoB w w4) := ⟨(HC.out.trans hal (fun _ _ e => e)).trans (grown_chg h3) (fun i hi e => by have := (HRVB.out i e).1; omega)⟩
      clear h2 h3 h5 hal
      go_wp2_with fail
      go_ret
      exact ⟨_, rfl, by rw [HE.out]; exact HS4.out, HC4.out⟩
end Go.Proofs.YtphnjfbaioblbaaDoor
