/- Entity.PrimaryIdentity: the one of the greatest rank, in whatever order the map is gone through. -/
import Derived.Test.YtdcamebmbadmbaaPrimE
set_option linter.unusedVariables false
set_option linter.unusedSimpArgs false
namespace Go.Proofs.Ytdcamebmbadmbaa
open Go.RowKit V
theorem apart_eq {α : Type} {f : Idn → α} : ∀ {l : List (Nat × Idn)}, (l.map Prod.snd).Pairwise (fun i j => f i ≠ f j) → ∀ {s t : Nat × Idn}, s ∈ l → t ∈ l → f s.2 = f t.2 → s = t
  | [], _, _, _, hs, _, _ => by cases hs
  | a :: r, hp, s, t, hs, ht, h => by
    rw [List.map_cons] at hp
    obtain ⟨h1, h2⟩ := List.pairwise_cons.1 hp
    rcases List.mem_cons.1 hs with e | hs'
    · rcases List.mem_cons.1 ht with e' | ht'
      · rw [e, e']
      · exact absurd (e ▸ h) (h1 t.2 (List.mem_map.2 ⟨t, ht', rfl⟩))
    · rcases List.mem_cons.1 ht with e' | ht'
      · exact absurd (e' ▸ h).symm (h1 s.2 (List.mem_map.2 ⟨s, hs', rfl⟩))
      · exact apart_eq h2 hs' ht' h
theorem nmKey_inj {i j : Idn} (h : nmKey i = nmKey j) : i.nm = j.nm := by
  by_cases e : i.nm = j.nm
  · exact e
  · exact absurd h (nmKey_ne e)
theorem nmKey_self (i : Idn) : (nmKey i).sameKey (nmKey i) = true := WideAt.sameKey_self (nmKey_ok i)
theorem keyOf_str_inv {key : Value} {kl : Lit} (h : keyOf Try.prog 9 key = some kl) : ∃ s, key = .string s := by
  cases key <;> simp [keyOf, Try.underlying9, mapKey] at h
  exact ⟨_, rfl⟩
theorem ptrElem_inv {v : Value} {y : DataW Unit × List MemPlace} (h : ptrElem v = some y) : ∃ c : Nat, v = .pointer (some ⟨c, 0, none⟩) := by
  unfold ptrElem at h
  split at h
  · exact ⟨_, rfl⟩
  · cases h
theorem chg_gb {w w' : World} (h : Chg NoB w w') : w.grownBy w' none := ⟨h.os, h.tape, h.output, h.size, fun i hi _ => h.block i hi (fun e => e)⟩
theorem gb_chg {w w' : World} {r : Nat} (h : w.grownBy w' (some r)) : Chg (fun c => c = r) w w' := (Chg.refl _ _).grown h (fun k _ e => by injection e with e; exact e.symm)
/-- Behind an iterator's step. -/
theorem IdAt.chgR {w w' : World} {g r : Nat} {i : Idn} (h : IdAt w g i) (hr : w.heap.size ≤ r) (hc : Chg (fun c => c = r) w w') : IdAt w' g i := by
  obtain ⟨sg, pb, RA, rc, SA, sc, h1, h2, h3⟩ := h
  have l1 := h1.lt
  have l2 := h2.lt
  have l3 := h3.lt
  exact ⟨sg, pb, RA, rc, SA, sc, h1.chg hc (fun e => by omega), h2.chg hc (fun e => by omega), h3.chg hc (fun e => by omega)⟩
theorem mapD_mem {l : List (Nat × Idn)} {q : Nat × Idn} (hq : q ∈ l) : Maps.has (mapD l) (nmKey q.2) = true := by
  revert hq
  refine snocInd (motive := fun l => q ∈ l → Maps.has (mapD l) (nmKey q.2) = true) (fun h => by cases h) (fun l p ih hq => ?_) l
  rw [mapD_snoc]
  by_cases e : nmKey q.2 = nmKey p.2
  · rw [e]; exact Maps.has_put_same (mapD_is l) (nmKey_ok _) _
  · rw [Maps.has_put_other e]
    rcases List.mem_append.1 hq with h | h
    · exact ih h
    · simp at h; subst h; exact absurd rfl e
/-- How far the loop is: which one is the best of those that have come. -/
def Best (gl : List (Nat × Idn)) (left : Lit → Bool) (pv : Value) : Prop :=
  (pv = .pointer none ∧ ∀ q ∈ gl, left (nmKey q.2) = true) ∨ ∃ q ∈ gl, pv = .pointer (some ⟨q.1, 0, none⟩) ∧ left (nmKey q.2) = false ∧ ∀ s ∈ gl, left (nmKey s.2) = false → s.2.rank ≤ q.2.rank
theorem best_take {gl : List (Nat × Idn)} {left : Lit → Bool} {s : Nat × Idn} (ha : Apart (gl.map Prod.snd)) (hs : s ∈ gl) (h : ∀ t ∈ gl, left (nmKey t.2) = false → t.2.rank ≤ s.2.rank) :
    Best gl (fun x => left x && !x.sameKey (nmKey s.2)) (.pointer (some ⟨s.1, 0, none⟩)) := by
  refine .inr ⟨s, hs, rfl, by simp [nmKey_self], fun t ht hl => ?_⟩
  simp only [Bool.and_eq_false_iff, Bool.not_eq_false'] at hl
  rcases hl with hl | hl
  · exact h t ht hl
  · have := apart_eq (f := Idn.nm) ha ht hs (nmKey_inj (WideAt.sameKey_eq hl))
    rw [this]
    exact Int.le_refl _
theorem best_keep {gl : List (Nat × Idn)} {left : Lit → Bool} {q s : Nat × Idn} (ha : Apart (gl.map Prod.snd)) (hq : q ∈ gl) (hs : s ∈ gl) (hlq : left (nmKey q.2) = false) (h : ∀ t ∈ gl, left (nmKey t.2) = false → t.2.rank ≤ q.2.rank) (hr : s.2.rank ≤ q.2.rank) :
    Best gl (fun x => left x && !x.sameKey (nmKey s.2)) (.pointer (some ⟨q.1, 0, none⟩)) := by
  refine .inr ⟨q, hq, rfl, by simp [hlq], fun t ht hl => ?_⟩
  simp only [Bool.and_eq_false_iff, Bool.not_eq_false'] at hl
  rcases hl with hl | hl
  · exact h t ht hl
  · have := apart_eq (f := Idn.nm) ha ht hs (nmKey_inj (WideAt.sameKey_eq hl))
    rw [this]
    exact hr
set_option maxRecDepth 100000 in
set_option maxHeartbeats 4000000 in
theorem primaryIdentity_any (ge mb n : Nat) (gl : List (Nat × Idn)) (w : World) (he : EntAt w ge mb n (mapD gl)) (hi : ∀ q ∈ gl, IdAt w q.1 q.2) (ha : Apart (gl.map Prod.snd)) (ht : (gl.map Prod.snd).Pairwise (fun i j => i.t ≠ j.t)) (hok : ∀ q ∈ gl, q.2.Ok) (hne : gl ≠ []) :
    Calls Try.prog 8 #[.pointer (some ⟨ge, 0, none⟩)] w fun e w' => (∃ q ∈ gl, e = .returned (.pointer (some ⟨q.1, 0, none⟩)) ∧ ∀ s ∈ gl, s.2.rank ≤ q.2.rank) ∧ Chg NoB w w' := by
  obtain ⟨PK, A1, c1, A2, c2, hb, ho⟩ := he
  have x2 := hb.cell 2
  simp only [List.getElem?_cons_zero, List.getElem?_cons_succ] at x2
  have HO := As.mk ho
  have HI := As.mk hi
  have HA := As.mk ha
  have HT := As.mk ht
  have HOK := As.mk hok
  have HNE := As.mk hne
  clear hb ho hi ha ht hok hne
  go_enter Try.func8, Try.ntmps8
  go_wp2_with (at_range; refine wpList_range_own _ rfl _ 63 rfl 9 51 (Maps.string_keyed Try.underlying9) Try.underlying63 ptrElem mb n (mapD gl) rfl HO.out ?_; intro w0 hrg0 hg0 hs0)
  go_frame
  have HRG0 := As.mk hrg0
  have HC0 : As (Chg NoB w w0) := ⟨(Chg.refl _ _).grown hg0 (fun k _ e => by cases e)⟩
  clear hrg0 hg0 hs0
  go_loopw [3, 5] (fun pv _ wr => ∃ (left : Lit → Bool) (cnt : Nat), As (wr.ranges Try.prog 9 ptrElem mb w.heap.size n (mapD gl) left cnt) ∧ As (∀ kl, left kl = true → ∃ q ∈ gl, kl = nmKey q.2) ∧ As (Best gl left pv) ∧ As (Chg (fun c => c = w.heap.size) w wr)) (fun _ _ wr => wr.rangeLeft mb w.heap.size)
  case atStart => exact ⟨_, _, HRG0, ⟨fun kl h => mapD_has h⟩, ⟨.inl ⟨rfl, fun q hq => mapD_mem hq⟩⟩, ⟨HC0.out.mono (fun _ _ e => e.elim)⟩⟩
  case round =>
    clear HRG0 HC0 HO x2
    obtain ⟨left, cnt, HRG, HLK, HBE, HC⟩ := hrel
    go_wp2_with (at_next; refine wpList_next_ranges _ rfl _ rfl 9 (Maps.string_keyed Try.underlying9) ptrElem Value.string (fun c : Nat => .pointer (some ⟨c, 0, none⟩)) (fun key kl h => keyOf_str_inv h) (fun v y h => ptrElem_inv h) mb w.heap.size n (mapD gl) left cnt rfl HRG.out ?_ ?_)
    · intro _ hl0
      have HL0 := As.mk hl0
      clear hl0
      go_wp2_with fail
      rcases HBE.out with ⟨rfl, hall⟩ | ⟨q, hq, rfl, _, hbest⟩
      · exfalso
        obtain ⟨q0, r0, e0⟩ := List.exists_cons_of_ne_nil HNE.out
        have h1 := hall q0 (by rw [e0]; simp)
        rw [HL0.out] at h1
        cases h1
      · have HBB := As.mk (And.intro hq (fun s hs => hbest s hs (HL0.out _)))
        clear hq hbest
        go_wp2_with fail
        go_ret
        exact ⟨⟨q, HBB.out.1, rfl, HBB.out.2⟩, HC.out.mono (fun i hi e => by omega)⟩
    · intro x c kl y ps w1 cnt1 hkey hlk hv hat hrg1 hlt hg1 hs1 hen
      obtain ⟨s, hs, rfl⟩ := HLK.out kl hlk
      have hcs : c = s.1 := by
        have h1 := hat (.nil)
        rw [mapD_at HA.out hs] at h1
        have h0 : ptrElem (.pointer (some ⟨c, 0, none⟩)) = some (.lit (.int .i64 c), []) := rfl
        have h2 : y = .lit (.int .i64 c) := (congrArg Prod.fst (Option.some.inj (h0.symm.trans hv))).symm
        rw [h2] at h1
        simp at h1
        omega
      subst hcs
      have HS := As.mk hs
      have HLS := As.mk hlk
      have HRG1 := As.mk hrg1
      have HLT := As.mk hlt
      have HC1 : As (Chg (fun c => c = w.heap.size) w w1) := ⟨HC.out.trans (gb_chg hg1) (fun i hi e => e)⟩
      have HID1 : As (∀ q ∈ gl, IdAt w1 q.1 q.2) := ⟨fun q hq => (HI.out q hq).chgR (Nat.le_refl _) HC1.out⟩
      clear hs hlk hat hv hrg1 hlt hg1 hkey
      go_wp2_with fail
      have HFR : As (∀ w2 pv', Chg NoB w1 w2 → Best gl (fun z => left z && !z.sameKey (nmKey s.2)) pv' → ∃ (left' : Lit → Bool) (cnt' : Nat), As (w2.ranges Try.prog 9 ptrElem mb w.heap.size n (mapD gl) left' cnt') ∧ As (∀ kl, left' kl = true → ∃ q ∈ gl, kl = nmKey q.2) ∧ As (Best gl left' pv') ∧ As (Chg (fun c => c = w.heap.size) w w2)) :=
        ⟨fun w2 pv' hc hb => ⟨_, cnt1, ⟨HRG1.out.kept (chg_gb hc) (by simp) (by simp)⟩, ⟨fun kl h => HLK.out kl (by simp only [Bool.and_eq_true] at h; exact h.1)⟩, ⟨hb⟩, ⟨HC1.out.trans hc (fun _ _ e => e.elim)⟩⟩⟩
      have HMS : As (∀ w2, Chg NoB w1 w2 → w2.rangeLeft mb w.heap.size < wr.rangeLeft mb w.heap.size) :=
        ⟨fun w2 hc => by rw [(HRG1.out.kept (chg_gb hc) (by simp) (by simp)).left_eq, HRG.out.left_eq]; exact HLT.out⟩
      rcases HBE.out with ⟨rfl, hall⟩ | ⟨q, hq, rfl, hlq, hbest⟩
      · have HB2 := As.mk (best_take (left := left) HA.out HS.out (fun t ht h => by rw [hall t ht] at h; cases h))
        clear hall
        refine (prefer_nil _ _).mono ?_
        rintro e w2 ⟨rfl, rfl⟩
        go_wp2_with fail
        go_roundw
        case rel => exact HFR.out _ _ (Chg.refl _ _) HB2.out
        case measure => exact HMS.out _ (Chg.refl _ _)
      · have hqs : s.2.t ≠ q.2.t := fun e => by
          have := apart_eq (f := Idn.t) HT.out HS.out hq e
          subst this
          rw [HLS.out] at hlq
          cases hlq
        have HQ := As.mk (And.intro hq (And.intro hlq hbest))
        refine (prefer_any q.1 s.1 q.2 s.2 _ (HID1.out q hq) (HID1.out s HS.out) (HOK.out q hq) (HOK.out s HS.out) hqs).mono ?_
        clear hq hlq hbest hqs
        rintro e w2 ⟨rfl, hc2⟩
        have HC2 := As.mk hc2
        clear hc2
        by_cases hlt : q.2.rank < s.2.rank
        · have hd : decide (q.2.rank < s.2.rank) = true := by simpa using hlt
          have HB2 := As.mk (best_take (left := left) HA.out HS.out (fun t ht h => by have := HQ.out.2.2 t ht h; omega))
          rw [hd]
          clear hd hlt
          go_wp2_with fail
          go_roundw
          case rel => exact HFR.out _ _ HC2.out HB2.out
          case measure => exact HMS.out _ HC2.out
        · have hd : decide (q.2.rank < s.2.rank) = false := by simpa using hlt
          have HB2 := As.mk (best_keep (left := left) HA.out HQ.out.1 HS.out HQ.out.2.1 HQ.out.2.2 (by omega))
          rw [hd]
          clear hd hlt
          go_wp2_with fail
          go_roundw
          case rel => exact HFR.out _ _ HC2.out HB2.out
          case measure => exact HMS.out _ HC2.out
end Go.Proofs.Ytdcamebmbadmbaa
