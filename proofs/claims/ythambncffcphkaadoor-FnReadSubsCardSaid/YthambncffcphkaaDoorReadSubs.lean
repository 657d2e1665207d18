/- The contract of impl.ReadSubs; the walk of FnReadSubs. -/
import Derived.Test.YthambncffcphkaaDoorImplSubs
import Derived.Test.YthambncffcphkaaDoorSameSubs
import Derived.Test.YthambncffcphkaaDoorSubs
import Derived.Test.YthambncffcphkaaDoorEnd
set_option linter.unusedVariables false
set_option linter.unusedSimpArgs false
namespace Go.Proofs.YthambncffcphkaaDoor
open Go.RowKit V
theorem subsF_byt : ∀ (k : Nat) (xs : List Int) (l : List SubIt), Byt xs → subsF k xs = some l → ∀ it ∈ l, 0 ≤ it.1 ∧ it.1 ≤ 255
  | 0, xs, l, _, h => by simp [subsF] at h
  | k + 1, xs, l, hb, h => by
    unfold subsF at h
    by_cases h0 : xs.length = 0
    · rw [if_pos h0] at h; injection h with h; subst h; intro it hit; simp at hit
    · rw [if_neg h0] at h
      cases hs : sub1 xs with
      | none => rw [hs] at h; cases h
      | some p =>
        obtain ⟨o, n⟩ := p
        rw [hs] at h
        simp only [Option.map_eq_some_iff] at h
        obtain ⟨l', h1, rfl⟩ := h
        intro it hit
        rcases List.mem_cons.1 hit with rfl | hit
        · exact hb.rd _
        · exact subsF_byt k _ l' (hb.drop _) h1 it hit
def RsOf (w : World) (xs : List Int) (e : Ending) (w' : World) : Prop :=
  Chg NoB w w' ∧
  match subsA xs with
  | none => ∃ (v : Value) (h : Int), h ≠ 0 ∧ e = .returned (.tuple #[v, .int .i64 h])
  | some l => ∃ v, e = .returned (.tuple #[v, .int .i64 0]) ∧ Svs w' w.heap.size 55 .u8 v l ∧ l.length ≤ xs.length
set_option maxRecDepth 100000 in
set_option maxHeartbeats 2000000 in
theorem implReadSubs_any (A : Option Addr) (n c : Nat) (xs : List Int) (w : World) (a0 a1 : Addr) (hS : Sent w a0 a1) (hn : n = xs.length) (hx : Rb w A xs) (hb : Byt xs) (hl : n ≤ 1048576) :
    Calls Tryd.prog 5 #[.slice A n c] w (RsOf w xs) := by
  have HX := As.mk hx
  have HN := As.mk hn
  have HB := As.mk hb
  have HSE := As.mk hS
  clear hx hn hb hS
  go_enter Tryd.func5, Tryd.ntmps5
  go_wp2_with fail
  refine (own_any A n c xs _ HN.out HX.out (by have := HN.out; omega)).mono ?_
  rintro e w1 ⟨v1, rfl, ho1, hc1⟩
  obtain ⟨A1, c1, rfl, hlc, hr1, _⟩ := own_form ho1
  rw [← HN.out] at hlc
  rw [← HN.out]
  have HR1 := As.mk hr1
  have HC1 := As.mk hc1
  clear ho1 hc1 hr1
  go_wp2_with fail
  refine (opaqueSubs_any A1 n c1 xs _ HN.out hlc HR1.out HB.out hl).mono ?_
  rintro e w2 ⟨hc2, hm⟩
  have HC2 := As.mk (HC1.out.trans hc2 (fun _ _ e => e))
  have HZ := As.mk (Nat.le_trans HC1.out.size hc2.size)
  cases hs : subsA xs with
  | none =>
    rw [hs] at hm
    obtain ⟨v, l, rfl, hp, hll, hsm⟩ := hm
    have HS := As.mk hs
    have HP := As.mk hp
    have HSM := As.mk hsm
    have HLL := As.mk hll
    clear hs hp hsm hc2 hll
    go_wp2_with fail
    refine (implSubs_any _ _ v l _ HP.out (by have := HLL.out; have := HN.out; omega) HSM.out).mono ?_
    rintro e w3 ⟨v3, rfl, hc3, hv3⟩
    have HC3 := As.mk (HC2.out.trans hc3 (fun _ _ e => e))
    clear hc3 hv3
    go_wp2_with fail
    refine (end_structural noSub _ a0 a1 (HSE.out.keep HC3.out)).mono ?_
    rintro e w4 ⟨rfl, rfl⟩
    go_wp2_with fail
    go_ret2
    refine ⟨HC3.out, ?_⟩
    rw [HS.out]
    exact ⟨_, _, by decide, rfl⟩
  | some l =>
    rw [hs] at hm
    obtain ⟨v, rfl, hp, hll, hsm⟩ := hm
    have HS := As.mk hs
    have HP := As.mk hp
    have HSM := As.mk hsm
    have HLL := As.mk hll
    clear hs hp hsm hc2 hll
    go_wp2_with fail
    refine (implSubs_any _ _ v l _ HP.out (by have := HLL.out; have := HN.out; omega) HSM.out).mono ?_
    rintro e w3 ⟨v3, rfl, hc3, hv3⟩
    have HC3 := As.mk (HC2.out.trans hc3 (fun _ _ e => e))
    have HV3 := As.mk hv3
    clear hc3 hv3
    go_wp2_with fail
    refine (end_nil _).mono ?_
    rintro e w4 ⟨rfl, rfl⟩
    go_wp2_with fail
    go_ret2
    refine ⟨HC3.out, ?_⟩
    rw [HS.out]
    exact ⟨_, rfl, HV3.out.lower HC2.out.size, HLL.out⟩
set_option maxRecDepth 100000 in
set_option maxHeartbeats 2000000 in
theorem fnReadSubs_walk (A : Option Addr) (c : Nat) (xs : List Int) (W : World) (a0 a1 : Addr) (hS : Sent W a0 a1) (hx : Rk .u8 W A xs) (hc : xs.length ≤ c) (hb : Byt xs) (hl : xs.length ≤ 140737488351232) :
    Calls Tryd.prog 3 #[.slice A xs.length c] W fun e w' => e = .returned (.bool true) ∧ Below W.heap.size W w' := by
  obtain ⟨n, hn⟩ : ∃ n, n = xs.length := ⟨_, rfl⟩
  rw [← hn] at hc hl
  rw [← hn]
  have HX := As.mk hx
  have HN := As.mk hn
  have HB := As.mk hb
  have HSE := As.mk hS
  clear hx hn hb hS
  by_cases h1 : n ≤ 1048576
  · go_enter Tryd.func3, Tryd.ntmps3
    go_wp2_with fail
    refine (implReadSubs_any A n c xs _ a0 a1 HSE.out HN.out HX.out HB.out h1).mono ?_
    rintro e w1 ⟨hc1, hm⟩
    have HM := As.mk hm
    have HC1 := As.mk hc1
    clear hc1 hm
    cases hs : subsA xs with
    | none =>
      have hm := HM.out
      rw [hs] at hm
      obtain ⟨v, h, hh, rfl⟩ := hm
      have hhb : (h != 0) = true := by simpa using hh
      have HS := As.mk hs
      clear hs hh
      go_wp2_with fail
      refine (subs_any A n c xs _ HN.out hc (HX.out.keep HC1.out) HB.out h1).mono ?_
      rintro e w2 ⟨hc2, hm⟩
      rw [HS.out] at hm
      obtain ⟨h2, hh2, rfl⟩ := hm
      have hhb2 : (h2 != 0) = true := by simpa using hh2
      have HC2 := As.mk (HC1.out.trans hc2 (fun _ _ e => e))
      clear hc2 hh2
      go_wp2_with fail
      go_ret
      exact ⟨rfl, HC2.out.below (Nat.le_refl _) (fun _ _ e => e)⟩
    | some l =>
      have hm := HM.out
      rw [hs] at hm
      obtain ⟨v, rfl, hv, hll⟩ := hm
      have HS := As.mk hs
      have HV := As.mk hv
      have HLL := As.mk hll
      clear hs hv hll
      go_wp2_with fail
      refine (subs_any A n c xs _ HN.out hc (HX.out.keep HC1.out) HB.out h1).mono ?_
      rintro e w2 ⟨hc2, hm⟩
      rw [HS.out] at hm
      obtain ⟨v2, rfl, hv2, _⟩ := hm
      have HC2 := As.mk (HC1.out.trans hc2 (fun _ _ e => e))
      have HV1 := As.mk (HV.out.keep hc2)
      have HV2 := As.mk hv2
      clear hc2 hv2
      go_wp2_with fail
      refine (sameSubs_yes _ _ v v2 l _ HV1.out HV2.out (by have := HLL.out; have := HN.out; omega) (subsF_byt _ _ l HB.out HS.out)).mono ?_
      rintro e w3 ⟨rfl, hc3⟩
      have HC3 := As.mk (HC2.out.trans hc3 (fun _ _ e => e))
      clear hc3
      go_wp2_with fail
      go_ret
      exact ⟨rfl, HC3.out.below (Nat.le_refl _) (fun _ _ e => e)⟩
  · have h2 : (1048576 : Int) < (n : Int) := by omega
    by_cases h3 : n ≤ 2147483647
    · go_enter Tryd.func3, Tryd.ntmps3
      go_wp2_with fail
      go_ret
      exact ⟨rfl, Below.refl _ _⟩
    · have h4 : (2147483647 : Int) < (n : Int) := by omega
      go_enter Tryd.func3, Tryd.ntmps3
      go_wp2_with fail
      go_ret
      exact ⟨rfl, Below.refl _ _⟩
end Go.Proofs.YthambncffcphkaaDoor
