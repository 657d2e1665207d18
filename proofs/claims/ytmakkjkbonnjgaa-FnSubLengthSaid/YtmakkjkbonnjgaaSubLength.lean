/- The walks of FnSubLength: a subpacket's length is written in as few octets as it can be, and their number is told. -/
import Derived.Test.YtmakkjkbonnjgaaOctets
set_option linter.unusedVariables false
set_option linter.unusedSimpArgs false
namespace Go.Proofs.Ytmakkjkbonnjgaa
open Go.RowKit V

/-- A subpacket's length, written. -/
def subLen (n : Int) : List Int := if n < 192 then [n] else if n < 16320 then [(n - 192) / 256 + 192, (n - 192) % 256] else 255 :: oct n 4
def subLenLen (n : Int) : Nat := if n < 192 then 1 else if n < 16320 then 2 else 5
theorem subLen_length (n : Int) : (subLen n).length = subLenLen n := by
  unfold subLen subLenLen
  split
  · rfl
  · split
    · rfl
    · simp [oct_length]
theorem oct4 (n : Int) : oct n 4 = [n / 16777216 % 256, n / 65536 % 256, n / 256 % 256, n % 256] := by
  unfold oct tab
  simp [List.range_succ]

set_option maxHeartbeats 1000000 in
theorem specSubLength_any (n : Int) (w : World) (h0 : 0 ≤ n) (h1 : n ≤ 4294967295) : Calls Try.prog 30 #[.int .i64 n] w (Gives NoB w (subLen n)) := by
  by_cases c1 : n < 192
  · have e : As (subLen n = [n]) := ⟨by unfold subLen; rw [if_pos c1]⟩
    go_enter Try.func30, Try.ntmps30
    go_wp2
    go_ret
    refine ⟨_, rfl, ?_, (Chg.refl _ _).alloc _⟩
    rw [e.out]
    exact own_lit w _ 5 .u8 [n] (Nat.le_refl _) (by simp [maxLen])
  · by_cases c2 : n < 16320
    · have e : As (subLen n = [(n - 192) / 256 + 192, (n - 192) % 256]) := ⟨by unfold subLen; rw [if_neg c1, if_pos c2]⟩
      go_enter Try.func30, Try.ntmps30
      go_wp2
      go_ret
      refine ⟨_, rfl, ?_, (Chg.refl _ _).alloc _⟩
      rw [e.out]
      exact own_lit w _ 5 .u8 [(n - 192) / 256 + 192, (n - 192) % 256] (Nat.le_refl _) (by simp [maxLen])
    · have e : As (subLen n = [255] ++ oct n 4) := ⟨by unfold subLen; rw [if_neg c1, if_neg c2]; rfl⟩
      go_enter Try.func30, Try.ntmps30
      go_wp2_with fail
      refine (octets_any n 4 _ h0 (by omega) (by omega)).mono ?_
      rintro x w1 ⟨v1, rfl, ho1, hc1⟩
      have ho0 := own_keep (own_lit w w.heap.size 5 .u8 [255] (Nat.le_refl _) (by simp [maxLen])) hc1
      have hz := hc1.size
      obtain ⟨A1, c1', rfl, hl1, hr1, _⟩ := own_form ho1
      have hol := oct_length n 4
      have HOL := As.mk hol
      clear hol ho1
      go_wp2_with (at_builtin; refine wpList_append_rk rfl _ _ 22 rfl 5 .u8 1 Try.underlying22 info8 (by decide) _ w.heap.size [255] (oct n 4) A1 c1' rfl rfl ho0 hr1 (by simp at hz; omega) (by rw [HOL.out]; decide) ?_; intro u2 w2 ho2 hg2 _)
      go_ret
      refine ⟨u2, rfl, ?_, (((Chg.refl NoB w).alloc _).trans hc1 (fun _ _ e => e)).grown hg2 (fun k hk e => by have e2 : w.heap.size = k := Option.some.inj e; omega)⟩
      rw [e.out]
      exact ho2

/-- The length is written into a row of the caller's. -/
def Wrote (w : World) (base g c : Nat) (xs : List Int) (k : Nat) (e : Ending) (w' : World) : Prop :=
  e = .returned (.int .i64 (k : Int)) ∧ Own w' base 5 .u8 (.slice (some ⟨g, 0, none⟩) xs.length c) xs ∧ Chg (fun b => b = g) w w'
set_option maxHeartbeats 1000000 in
theorem serSubLength_any (n : Int) (base g c : Nat) (w : World) (h0 : 0 ≤ n) (h1 : n ≤ 4294967295) (ho : Own w base 5 .u8 (.slice (some ⟨g, 0, none⟩) 5 c) [0, 0, 0, 0, 0]) :
    Calls Try.prog 63 #[.slice (some ⟨g, 0, none⟩) 5 c, .int .i64 n] w
      (Wrote w base g c (subLen n ++ List.replicate (5 - subLenLen n) 0) (subLenLen n)) := by
  obtain ⟨a0, b0⟩ := own_at ho 0 (by simp)
  obtain ⟨a1, b1⟩ := own_at ho 1 (by simp)
  obtain ⟨a2, b2⟩ := own_at ho 2 (by simp)
  obtain ⟨a3, b3⟩ := own_at ho 3 (by simp)
  obtain ⟨a4, b4⟩ := own_at ho 4 (by simp)
  have cg : ∀ {w1 : World} (i : Nat) (u : Value), Chg (fun b => b = g) w w1 → Chg (fun b => b = g) w (w1.setCell ⟨g, i, none⟩ u) := fun i u h => h.setCell (p := ⟨g, i, none⟩) u (fun _ => rfl)
  by_cases c1 : n < 192
  · have e : As (subLen n ++ List.replicate (5 - subLenLen n) 0 = [n, 0, 0, 0, 0] ∧ subLenLen n = 1) := ⟨by unfold subLen subLenLen; rw [if_pos c1, if_pos c1]; exact ⟨rfl, rfl⟩⟩
    have HO := As.mk ho
    clear ho cg
    go_enter Try.func63, Try.ntmps63
    go_wp2
    go_ret
    rw [e.out.1, e.out.2]
    exact ⟨rfl, own_set HO.out 0 n, (Chg.refl _ w).setCell (p := ⟨g, 0, none⟩) _ (fun _ => rfl)⟩
  · by_cases c2 : n < 16320
    · have e : As (subLen n ++ List.replicate (5 - subLenLen n) 0 = [(n - 192) / 256 + 192, (n - 192) % 256, 0, 0, 0] ∧ subLenLen n = 2) := ⟨by unfold subLen subLenLen; rw [if_neg c1, if_pos c2, if_neg c1, if_pos c2]; exact ⟨rfl, rfl⟩⟩
      have HO := As.mk ho
      have CG := As.mk @cg
      clear ho cg
      go_enter Try.func63, Try.ntmps63
      go_wp2
      go_ret
      rw [e.out.1, e.out.2]
      exact ⟨rfl, own_set (own_set HO.out 0 _) 1 _, CG.out 1 _ (CG.out 0 _ (Chg.refl _ w))⟩
    · have e : As (subLen n ++ List.replicate (5 - subLenLen n) 0 = [255, n / 16777216, n / 65536 % 256, n / 256 % 256, n % 256] ∧ subLenLen n = 5) := ⟨by unfold subLen subLenLen; rw [if_neg c1, if_neg c2, if_neg c1, if_neg c2, oct4, show n / 16777216 % 256 = n / 16777216 from by omega]; exact ⟨rfl, rfl⟩⟩
      have HO := As.mk ho
      have CG := As.mk @cg
      clear ho cg
      go_enter Try.func63, Try.ntmps63
      go_wp2
      go_ret
      rw [e.out.1, e.out.2]
      have o5 := own_set (own_set (own_set (own_set (own_set HO.out 0 255) 1 (n / 16777216)) 2 (n / 65536 % 256)) 3 (n / 256 % 256)) 4 (n % 256)
      have k5 := CG.out 4 (.int .u8 (n % 256)) (CG.out 3 (.int .u8 (n / 256 % 256)) (CG.out 2 (.int .u8 (n / 65536 % 256)) (CG.out 1 (.int .u8 (n / 16777216)) (CG.out 0 (.int .u8 255) (Chg.refl (fun b => b = g) w)))))
      simp only [List.set_cons_zero, List.set_cons_succ] at o5
      exact ⟨rfl, o5, k5⟩

/-- What WriteSubLength hands back: the octets, and their number. -/
def SubLenIs (w : World) (n : Int) (e : Ending) (w' : World) : Prop :=
  ∃ v, e = .returned (.tuple #[v, .int .i64 (subLenLen n : Int)]) ∧ Own w' w.heap.size 5 .u8 v (subLen n) ∧ Chg NoB w w'
set_option maxRecDepth 100000 in
set_option maxHeartbeats 1000000 in
theorem writeSubLength_any (n : Int) (w : World) (h0 : 0 ≤ n) (h1 : n ≤ 4294967295) : Calls Try.prog 29 #[.int .i64 n] w (SubLenIs w n) := by
  go_enter Try.func29, Try.ntmps29
  go_wp2_with ((with_reducible refine gate (N := 6) rfl ?_); refine wpList_make_k rfl _ 22 rfl 5 .u8 1 Try.underlying22 info8 (by decide) 5 _ rfl rfl (by omega) ?_; intro w1 g1 HG1 ho1 hc1 hz1)
  have hgb := own_blocks ho1
  have hlen : (subLen n ++ List.replicate (5 - subLenLen n) (0 : Int)).length = 5 := by
    rw [List.length_append, subLen_length, List.length_replicate]
    have : subLenLen n ≤ 5 := by unfold subLenLen; split <;> (try split) <;> omega
    omega
  have hk5 : subLenLen n ≤ 5 := by unfold subLenLen; split <;> (try split) <;> omega
  have htake : (subLen n ++ List.replicate (5 - subLenLen n) (0 : Int)).take (subLenLen n) = subLen n := by
    rw [← subLen_length n]; exact List.take_left
  have HL := As.mk hlen
  have HT := As.mk htake
  clear hlen htake
  have zz : ∀ W, Own W w.heap.size 5 .u8 (.slice (some ⟨g1, 0, none⟩) 5 5) [0, 0, 0, 0, 0] → Calls Try.prog 50 #[.slice (some ⟨g1, 0, none⟩) 5 5, .int .i64 n] W (Wrote W w.heap.size g1 5 (subLen n ++ List.replicate (5 - subLenLen n) 0) (subLenLen n)) := by
    intro W HO
    go_enter Try.func50, Try.ntmps50
    go_wp2_with fail
    refine (serSubLength_any n _ g1 5 W h0 h1 HO).mono ?_
    rintro e W' ⟨rfl, ho, hc⟩
    go_wp2
    go_ret
    exact ⟨rfl, ho, hc⟩
  have ll : ∀ W, Calls Try.prog 51 #[.int .i64 n] W fun e W' => e = .returned (.int .i64 (subLenLen n : Int)) ∧ W' = W := by
    intro W
    by_cases c1 : n < 192
    · have e : As (subLenLen n = 1) := ⟨by unfold subLenLen; rw [if_pos c1]⟩
      go_enter Try.func51, Try.ntmps51
      go_wp2
      go_ret
      exact ⟨by rw [e.out]; rfl, rfl⟩
    · by_cases c2 : n < 16320
      · have e : As (subLenLen n = 2) := ⟨by unfold subLenLen; rw [if_neg c1, if_pos c2]⟩
        go_enter Try.func51, Try.ntmps51
        go_wp2
        go_ret
        exact ⟨by rw [e.out]; rfl, rfl⟩
      · have e : As (subLenLen n = 5) := ⟨by unfold subLenLen; rw [if_neg c1, if_neg c2]⟩
        go_enter Try.func51, Try.ntmps51
        go_wp2
        go_ret
        exact ⟨by rw [e.out]; rfl, rfl⟩
  have ZZ := Lib.hid zz
  have LL := Lib.hid ll
  clear zz ll
  refine (ZZ.out _ ho1).mono ?_
  rintro e w2 ⟨rfl, ho2, hc2⟩
  have ho2' : Own w2 w.heap.size 5 .u8 (.slice (some ⟨g1, 0, none⟩) 5 5) (subLen n ++ List.replicate (5 - subLenLen n) 0) := by
    rw [HL.out] at ho2; exact ho2
  clear ho1 ho2
  have hcut := cut_to (P := Try.prog) 22 5 Try.underlying22 size8 (some ⟨g1, 0, none⟩) 5 5 (subLenLen n : Int) .i64 (subLenLen n) rfl (by omega)
  go_wp2_with fail
  go_quiet ((go_at_call 51; exact Calls.quiet_of_same (LL.out _)))
  go_wp2
  go_ret2
  refine ⟨_, rfl, ?_, (hc1.trans hc2 (fun i hi e => by subst e; omega)).drewN _⟩
  have := own_take ho2' (subLenLen n) (by rw [HL.out]; exact hk5)
  rw [HT.out] at this
  rw [subLen_length] at this
  exact this

set_option maxHeartbeats 1000000 in
theorem fnSubLength_walk (n : Int) (W : World) (hn : (Lit.int .u32 n).wf = true) :
    Calls Try.prog 11 #[.int .u32 n] W fun e W' => e = .returned (.bool true) ∧ Below W.heap.size W W' := by
  obtain ⟨h0, h1⟩ := wf_u32_lt hn
  go_enter Try.func11, Try.ntmps11
  go_wp2_with fail
  refine (writeSubLength_any n _ h0 h1).mono ?_
  rintro e w1 ⟨v1, rfl, ho1, hc1⟩
  obtain ⟨A1, c1, rfl, _, hr1, _⟩ := own_form ho1
  have hsl := subLen_length n
  have HSL := As.mk hsl
  have heq : ((subLenLen n : Int) == ((subLen n).length : Int)) = true := by rw [hsl]; simp
  clear hsl
  go_wp2_with fail
  refine (specSubLength_any n _ h0 h1).mono ?_
  rintro e w2 ⟨v2, rfl, ho2, hc2⟩
  obtain ⟨A2, c2, rfl, _, hr2, _⟩ := own_form ho2
  go_wp2_with fail
  refine (same_yes A1 _ c1 _ A2 _ c2 _ rfl rfl (hr1.keep hc2) hr2).mono ?_
  rintro e w3 ⟨rfl, n3, rfl⟩
  go_wp2
  go_ret
  exact ⟨rfl, ((hc1.trans hc2 (fun _ _ e => e)).drewN n3).below (Nat.le_refl _) (fun _ _ e => e)⟩
end Go.Proofs.Ytmakkjkbonnjgaa
