/- time.After of whole seconds; shouldPreferIdentity of two identities whose signatures are of different times. -/
import Derived.Test.YtdcamebmbadmbaaMany
set_option linter.unusedVariables false
set_option linter.unusedSimpArgs false
namespace Go.Proofs.Ytdcamebmbadmbaa
open Go.RowKit V
set_option maxRecDepth 100000 in
set_option maxHeartbeats 1000000 in
theorem after_any (s u : Int) (w : World) (h0 : 0 ≤ s) (h1 : s ≤ 4294967296) (u0 : 0 ≤ u) (u1 : u ≤ 4294967296) (hne : s ≠ u) :
    Calls Try.prog 18 #[.agg #[.int .u64 0, .int .i64 (s + 62135596800), .pointer none], .agg #[.int .u64 0, .int .i64 (u + 62135596800), .pointer none]] w fun e w' => e = .returned (.bool (decide (u < s))) ∧ Chg NoB w w' := by
  have hq : ((s + 62135596800 : Int) == u + 62135596800) = false := by simp; omega
  go_enter Try.func18, Try.ntmps18
  go_wp2_with fail
  refine (sec_any w.heap.size s _ ((Blk.new w _ (tmCells s)).alloc _)).mono ?_
  rintro e w1 ⟨rfl, rfl⟩
  go_wp2_with fail
  refine (sec_any (w.heap.size + 1) u _ (by have h := Blk.new (w.alloc (.cells (tmCells s).toArray 70)) 70 (tmCells u); rwa [show (w.alloc (.cells (tmCells s).toArray 70)).heap.size = w.heap.size + 1 from by simp] at h)).mono ?_
  rintro e w1 ⟨rfl, rfl⟩
  by_cases hlt : u < s
  · have hl2 : decide (u < s) = true := by simpa using hlt
    go_wp2_with fail
    go_ret
    exact ⟨by simp [hl2], ((Chg.refl _ _).alloc _).alloc _⟩
  · have hl2 : decide (u < s) = false := by simpa using hlt
    go_wp2_with fail
    go_ret
    exact ⟨by simp [hl2], ((Chg.refl _ _).alloc _).alloc _⟩
/-- A user id as it is drawn: its name, its time, its mark as primary, whether it is revoked. -/
structure Idn where
  nm : ByteArray
  t : Int
  p : Int
  rv : Bool
/-- Its rank. -/
def Idn.rank (i : Idn) : Int := i.t + 2000 * i.p + (if i.rv then 0 else 4000)
structure Idn.Ok (i : Idn) : Prop where
  t0 : 1000 ≤ i.t
  t1 : i.t < 2400
  p : i.p = 0 ∨ i.p = 1
/-- An identity of the package's. -/
def IdAt (w : World) (g : Nat) (i : Idn) : Prop :=
  ∃ sg pb RA rc SA sc, Blk w g 59 [.string i.nm, .pointer none, .pointer (some ⟨sg, 0, none⟩), .slice RA (if i.rv then 1 else 0) rc, .slice SA 0 sc] ∧ Blk w sg 95 (outCells 19 i.t (.pointer (some ⟨pb, 0, none⟩))) ∧ Blk w pb 4 [.bool (i.p != 0)]
theorem IdAt.keep {w w' : World} {g : Nat} {i : Idn} (h : IdAt w g i) (hc : Chg NoB w w') : IdAt w' g i := by
  obtain ⟨sg, pb, RA, rc, SA, sc, h1, h2, h3⟩ := h
  exact ⟨sg, pb, RA, rc, SA, sc, h1.chg hc (fun e => e), h2.chg hc (fun e => e), h3.chg hc (fun e => e)⟩
set_option maxRecDepth 100000 in
set_option maxHeartbeats 1000000 in
theorem prefer_nil (w : World) (v : Value) : Calls Try.prog 14 #[.pointer none, v] w fun e w' => e = .returned (.bool true) ∧ w' = w := by
  go_enter Try.func14, Try.ntmps14
  go_wp2_with fail
  go_ret
  exact ⟨rfl, rfl⟩
set_option maxRecDepth 100000 in
set_option maxHeartbeats 4000000 in
theorem prefer_any (g1 g2 : Nat) (i j : Idn) (w : World) (hi : IdAt w g1 i) (hj : IdAt w g2 j) (oi : i.Ok) (oj : j.Ok) (hne : j.t ≠ i.t) :
    Calls Try.prog 14 #[.pointer (some ⟨g1, 0, none⟩), .pointer (some ⟨g2, 0, none⟩)] w fun e w' => e = .returned (.bool (decide (i.rank < j.rank))) ∧ Chg NoB w w' := by
  obtain ⟨nm1, t, p, rv⟩ := i
  obtain ⟨nm2, t2, p2, rv2⟩ := j
  obtain ⟨sg, pb, RA, rc, SA, sc, h1, h2, h3⟩ := hi
  obtain ⟨sg', pb', RA', rc', SA', sc', h1', h2', h3'⟩ := hj
  obtain ⟨t0, t1, hp⟩ := oi
  obtain ⟨t0', t1', hp'⟩ := oj
  simp only at h1 h2 h3 h1' h2' h3' t0 t1 hp t0' t1' hp' hne
  have a0 := h1.cell 2
  have a1 := h1.cell 3
  have b0 := h1'.cell 2
  have b1 := h1'.cell 3
  simp only [List.getElem?_cons_zero, List.getElem?_cons_succ] at a0 a1 b0 b1
  have c9 : w.cell? ⟨sg, 9, none⟩ = some (.int .u64 0) := h2.cell 9
  have c10 : w.cell? ⟨sg, 10, none⟩ = some (.int .i64 (t + 62135596800)) := h2.cell 10
  have c11 : w.cell? ⟨sg, 11, none⟩ = some (.pointer none) := h2.cell 11
  have c31 : w.cell? ⟨sg, 31, none⟩ = some (.pointer (some ⟨pb, 0, none⟩)) := h2.cell 31
  have d9 : w.cell? ⟨sg', 9, none⟩ = some (.int .u64 0) := h2'.cell 9
  have d10 : w.cell? ⟨sg', 10, none⟩ = some (.int .i64 (t2 + 62135596800)) := h2'.cell 10
  have d11 : w.cell? ⟨sg', 11, none⟩ = some (.pointer none) := h2'.cell 11
  have d31 : w.cell? ⟨sg', 31, none⟩ = some (.pointer (some ⟨pb', 0, none⟩)) := h2'.cell 31
  have p0 := h3.cell 0
  have p0' := h3'.cell 0
  simp only [List.getElem?_cons_zero] at p0 p0'
  clear h1 h2 h3 h1' h2' h3'
  have HA := As.mk (fun w0 => after_any t2 t w0 (by omega) (by omega) (by omega) (by omega) hne)
  have HT : As (1000 ≤ t ∧ t < 2400 ∧ 1000 ≤ t2 ∧ t2 < 2400) := ⟨by omega⟩
  clear t0 t1 t0' t1' hne
  have hq : ∀ q : Int, q = 0 ∨ q = 1 → (q != 0) = decide (q = 1) := fun q h => by rcases h with rfl | rfl <;> rfl
  rw [hq p hp] at p0
  rw [hq p2 hp'] at p0'
  clear hq
  cases rv <;> cases rv2
  · replace a1 : w.cell? ⟨g1, 3, none⟩ = some (.slice RA 0 rc) := a1
    replace b1 : w.cell? ⟨g2, 3, none⟩ = some (.slice RA' 0 rc') := b1
    rcases hp with rfl | rfl <;> rcases hp' with rfl | rfl
    · replace p0 : w.cell? ⟨pb, 0, none⟩ = some (.bool false) := p0
      replace p0' : w.cell? ⟨pb', 0, none⟩ = some (.bool false) := p0'
      have hr : decide ((⟨nm1, t, 0, false⟩ : Idn).rank < (⟨nm2, t2, 0, false⟩ : Idn).rank) = decide (t < t2) := by
        simp [Idn.rank]
      rw [hr]
      clear hr
      go_enter Try.func14, Try.ntmps14
      go_wp2_with fail
      go_quiet (fail)
      go_wp2_with fail
      go_quiet (fail)
      go_wp2_with fail
      refine wp_world (fun w' => w'.cell? ⟨g1, 2, none⟩ = some (.pointer (some ⟨sg, 0, none⟩)) ∧ w'.cell? ⟨g2, 2, none⟩ = some (.pointer (some ⟨sg', 0, none⟩)) ∧ w'.cell? ⟨sg, 9, none⟩ = some (.int .u64 0) ∧ w'.cell? ⟨sg, 10, none⟩ = some (.int .i64 (t + 62135596800)) ∧ w'.cell? ⟨sg, 11, none⟩ = some (.pointer none) ∧ w'.cell? ⟨sg', 9, none⟩ = some (.int .u64 0) ∧ w'.cell? ⟨sg', 10, none⟩ = some (.int .i64 (t2 + 62135596800)) ∧ w'.cell? ⟨sg', 11, none⟩ = some (.pointer none) ∧ Chg NoB w w') ?hs ?_
      case hs => exact ⟨a0, b0, c9, c10, c11, d9, d10, d11, by repeat (first | exact Chg.refl _ _ | (with_reducible apply Chg.drewN) | (with_reducible apply Chg.drew))⟩
      clear a0 b0 c9 c10 c11 d9 d10 d11 c31 d31 p0 p0' a1 b1
      intro wz hw
      obtain ⟨a0, b0, c9, c10, c11, d9, d10, d11, hcz⟩ := hw
      have HCZ := As.mk hcz
      clear hcz
      go_still_tail 14, (by kernel_rfl)
      change wpList _ _ _ _ _ (World.drew wz)
      go_wp2_with fail
      refine (HA.out _).mono ?_
      rintro e w2 ⟨rfl, hc2⟩
      have HC2 := As.mk (HCZ.out.drew.trans hc2 (fun _ _ e => e))
      clear hc2
      go_wp2_with fail
      go_ret
      exact ⟨rfl, HC2.out⟩
    · replace p0 : w.cell? ⟨pb, 0, none⟩ = some (.bool false) := p0
      replace p0' : w.cell? ⟨pb', 0, none⟩ = some (.bool true) := p0'
      have hr : decide ((⟨nm1, t, 0, false⟩ : Idn).rank < (⟨nm2, t2, 1, false⟩ : Idn).rank) = true := by
        have := HT.out
        simp [Idn.rank]
        omega
      rw [hr]
      clear hr HA
      go_enter Try.func14, Try.ntmps14
      go_wp2_with fail
      go_quiet (fail)
      go_wp2_with fail
      go_quiet (fail)
      go_wp2_with fail
      go_ret
      exact ⟨rfl, by repeat (first | exact Chg.refl _ _ | (with_reducible apply Chg.drewN) | (with_reducible apply Chg.drew))⟩
    · replace p0 : w.cell? ⟨pb, 0, none⟩ = some (.bool true) := p0
      replace p0' : w.cell? ⟨pb', 0, none⟩ = some (.bool false) := p0'
      have hr : decide ((⟨nm1, t, 1, false⟩ : Idn).rank < (⟨nm2, t2, 0, false⟩ : Idn).rank) = false := by
        have := HT.out
        simp [Idn.rank]
        omega
      rw [hr]
      clear hr HA
      go_enter Try.func14, Try.ntmps14
      go_wp2_with fail
      go_quiet (fail)
      go_wp2_with fail
      go_quiet (fail)
      go_wp2_with fail
      go_ret
      exact ⟨rfl, by repeat (first | exact Chg.refl _ _ | (with_reducible apply Chg.drewN) | (with_reducible apply Chg.drew))⟩
    · replace p0 : w.cell? ⟨pb, 0, none⟩ = some (.bool true) := p0
      replace p0' : w.cell? ⟨pb', 0, none⟩ = some (.bool true) := p0'
      have hr : decide ((⟨nm1, t, 1, false⟩ : Idn).rank < (⟨nm2, t2, 1, false⟩ : Idn).rank) = decide (t < t2) := by
        simp [Idn.rank]
      rw [hr]
      clear hr
      go_enter Try.func14, Try.ntmps14
      go_wp2_with fail
      go_quiet (fail)
      go_wp2_with fail
      go_quiet (fail)
      go_wp2_with fail
      refine wp_world (fun w' => w'.cell? ⟨g1, 2, none⟩ = some (.pointer (some ⟨sg, 0, none⟩)) ∧ w'.cell? ⟨g2, 2, none⟩ = some (.pointer (some ⟨sg', 0, none⟩)) ∧ w'.cell? ⟨sg, 9, none⟩ = some (.int .u64 0) ∧ w'.cell? ⟨sg, 10, none⟩ = some (.int .i64 (t + 62135596800)) ∧ w'.cell? ⟨sg, 11, none⟩ = some (.pointer none) ∧ w'.cell? ⟨sg', 9, none⟩ = some (.int .u64 0) ∧ w'.cell? ⟨sg', 10, none⟩ = some (.int .i64 (t2 + 62135596800)) ∧ w'.cell? ⟨sg', 11, none⟩ = some (.pointer none) ∧ Chg NoB w w') ?hs ?_
      case hs => exact ⟨a0, b0, c9, c10, c11, d9, d10, d11, by repeat (first | exact Chg.refl _ _ | (with_reducible apply Chg.drewN) | (with_reducible apply Chg.drew))⟩
      clear a0 b0 c9 c10 c11 d9 d10 d11 c31 d31 p0 p0' a1 b1
      intro wz hw
      obtain ⟨a0, b0, c9, c10, c11, d9, d10, d11, hcz⟩ := hw
      have HCZ := As.mk hcz
      clear hcz
      go_still_tail 14, (by kernel_rfl)
      change wpList _ _ _ _ _ (World.drew wz)
      go_wp2_with fail
      refine (HA.out _).mono ?_
      rintro e w2 ⟨rfl, hc2⟩
      have HC2 := As.mk (HCZ.out.drew.trans hc2 (fun _ _ e => e))
      clear hc2
      go_wp2_with fail
      go_ret
      exact ⟨rfl, HC2.out⟩
  · replace a1 : w.cell? ⟨g1, 3, none⟩ = some (.slice RA 0 rc) := a1
    replace b1 : w.cell? ⟨g2, 3, none⟩ = some (.slice RA' 1 rc') := b1
    have hr : decide ((⟨nm1, t, p, false⟩ : Idn).rank < (⟨nm2, t2, p2, true⟩ : Idn).rank) = false := by
      have := HT.out
      simp only [Idn.rank, decide_eq_false_iff_not]
      rcases hp with rfl | rfl <;> rcases hp' with rfl | rfl <;> simp <;> omega
    rw [hr]
    clear hr HA
    go_enter Try.func14, Try.ntmps14
    go_wp2_with fail
    go_quiet (fail)
    go_wp2_with fail
    go_quiet (fail)
    go_wp2_with fail
    go_ret
    exact ⟨rfl, by repeat (first | exact Chg.refl _ _ | (with_reducible apply Chg.drewN) | (with_reducible apply Chg.drew))⟩
  · replace a1 : w.cell? ⟨g1, 3, none⟩ = some (.slice RA 1 rc) := a1
    replace b1 : w.cell? ⟨g2, 3, none⟩ = some (.slice RA' 0 rc') := b1
    have hr : decide ((⟨nm1, t, p, true⟩ : Idn).rank < (⟨nm2, t2, p2, false⟩ : Idn).rank) = true := by
      have := HT.out
      simp only [Idn.rank, decide_eq_true_eq]
      rcases hp with rfl | rfl <;> rcases hp' with rfl | rfl <;> simp <;> omega
    rw [hr]
    clear hr HA
    go_enter Try.func14, Try.ntmps14
    go_wp2_with fail
    go_quiet (fail)
    go_wp2_with fail
    go_ret
    exact ⟨rfl, by repeat (first | exact Chg.refl _ _ | (with_reducible apply Chg.drewN) | (with_reducible apply Chg.drew))⟩
  · replace a1 : w.cell? ⟨g1, 3, none⟩ = some (.slice RA 1 rc) := a1
    replace b1 : w.cell? ⟨g2, 3, none⟩ = some (.slice RA' 1 rc') := b1
    rcases hp with rfl | rfl <;> rcases hp' with rfl | rfl
    · replace p0 : w.cell? ⟨pb, 0, none⟩ = some (.bool false) := p0
      replace p0' : w.cell? ⟨pb', 0, none⟩ = some (.bool false) := p0'
      have hr : decide ((⟨nm1, t, 0, true⟩ : Idn).rank < (⟨nm2, t2, 0, true⟩ : Idn).rank) = decide (t < t2) := by
        simp [Idn.rank]
      rw [hr]
      clear hr
      go_enter Try.func14, Try.ntmps14
      go_wp2_with fail
      go_quiet (fail)
      go_wp2_with fail
      go_quiet (fail)
      go_wp2_with fail
      refine wp_world (fun w' => w'.cell? ⟨g1, 2, none⟩ = some (.pointer (some ⟨sg, 0, none⟩)) ∧ w'.cell? ⟨g2, 2, none⟩ = some (.pointer (some ⟨sg', 0, none⟩)) ∧ w'.cell? ⟨sg, 9, none⟩ = some (.int .u64 0) ∧ w'.cell? ⟨sg, 10, none⟩ = some (.int .i64 (t + 62135596800)) ∧ w'.cell? ⟨sg, 11, none⟩ = some (.pointer none) ∧ w'.cell? ⟨sg', 9, none⟩ = some (.int .u64 0) ∧ w'.cell? ⟨sg', 10, none⟩ = some (.int .i64 (t2 + 62135596800)) ∧ w'.cell? ⟨sg', 11, none⟩ = some (.pointer none) ∧ Chg NoB w w') ?hs ?_
      case hs => exact ⟨a0, b0, c9, c10, c11, d9, d10, d11, by repeat (first | exact Chg.refl _ _ | (with_reducible apply Chg.drewN) | (with_reducible apply Chg.drew))⟩
      clear a0 b0 c9 c10 c11 d9 d10 d11 c31 d31 p0 p0' a1 b1
      intro wz hw
      obtain ⟨a0, b0, c9, c10, c11, d9, d10, d11, hcz⟩ := hw
      have HCZ := As.mk hcz
      clear hcz
      go_still_tail 14, (by kernel_rfl)
      change wpList _ _ _ _ _ (World.drew wz)
      go_wp2_with fail
      refine (HA.out _).mono ?_
      rintro e w2 ⟨rfl, hc2⟩
      have HC2 := As.mk (HCZ.out.drew.trans hc2 (fun _ _ e => e))
      clear hc2
      go_wp2_with fail
      go_ret
      exact ⟨rfl, HC2.out⟩
    · replace p0 : w.cell? ⟨pb, 0, none⟩ = some (.bool false) := p0
      replace p0' : w.cell? ⟨pb', 0, none⟩ = some (.bool true) := p0'
      have hr : decide ((⟨nm1, t, 0, true⟩ : Idn).rank < (⟨nm2, t2, 1, true⟩ : Idn).rank) = true := by
        have := HT.out
        simp [Idn.rank]
        omega
      rw [hr]
      clear hr HA
      go_enter Try.func14, Try.ntmps14
      go_wp2_with fail
      go_quiet (fail)
      go_wp2_with fail
      go_quiet (fail)
      go_wp2_with fail
      go_ret
      exact ⟨rfl, by repeat (first | exact Chg.refl _ _ | (with_reducible apply Chg.drewN) | (with_reducible apply Chg.drew))⟩
    · replace p0 : w.cell? ⟨pb, 0, none⟩ = some (.bool true) := p0
      replace p0' : w.cell? ⟨pb', 0, none⟩ = some (.bool false) := p0'
      have hr : decide ((⟨nm1, t, 1, true⟩ : Idn).rank < (⟨nm2, t2, 0, true⟩ : Idn).rank) = false := by
        have := HT.out
        simp [Idn.rank]
        omega
      rw [hr]
      clear hr HA
      go_enter Try.func14, Try.ntmps14
      go_wp2_with fail
      go_quiet (fail)
      go_wp2_with fail
      go_quiet (fail)
      go_wp2_with fail
      go_ret
      exact ⟨rfl, by repeat (first | exact Chg.refl _ _ | (with_reducible apply Chg.drewN) | (with_reducible apply Chg.drew))⟩
    · replace p0 : w.cell? ⟨pb, 0, none⟩ = some (.bool true) := p0
      replace p0' : w.cell? ⟨pb', 0, none⟩ = some (.bool true) := p0'
      have hr : decide ((⟨nm1, t, 1, true⟩ : Idn).rank < (⟨nm2, t2, 1, true⟩ : Idn).rank) = decide (t < t2) := by
        simp [Idn.rank]
      rw [hr]
      clear hr
      go_enter Try.func14, Try.ntmps14
      go_wp2_with fail
      go_quiet (fail)
      go_wp2_with fail
      go_quiet (fail)
      go_wp2_with fail
      refine wp_world (fun w' => w'.cell? ⟨g1, 2, none⟩ = some (.pointer (some ⟨sg, 0, none⟩)) ∧ w'.cell? ⟨g2, 2, none⟩ = some (.pointer (some ⟨sg', 0, none⟩)) ∧ w'.cell? ⟨sg, 9, none⟩ = some (.int .u64 0) ∧ w'.cell? ⟨sg, 10, none⟩ = some (.int .i64 (t + 62135596800)) ∧ w'.cell? ⟨sg, 11, none⟩ = some (.pointer none) ∧ w'.cell? ⟨sg', 9, none⟩ = some (.int .u64 0) ∧ w'.cell? ⟨sg', 10, none⟩ = some (.int .i64 (t2 + 62135596800)) ∧ w'.cell? ⟨sg', 11, none⟩ = some (.pointer none) ∧ Chg NoB w w') ?hs ?_
      case hs => exact ⟨a0, b0, c9, c10, c11, d9, d10, d11, by repeat (first | exact Chg.refl _ _ | (with_reducible apply Chg.drewN) | (with_reducible apply Chg.drew))⟩
      clear a0 b0 c9 c10 c11 d9 d10 d11 c31 d31 p0 p0' a1 b1
      intro wz hw
      obtain ⟨a0, b0, c9, c10, c11, d9, d10, d11, hcz⟩ := hw
      have HCZ := As.mk hcz
      clear hcz
      go_still_tail 14, (by kernel_rfl)
      change wpList _ _ _ _ _ (World.drew wz)
      go_wp2_with fail
      refine (HA.out _).mono ?_
      rintro e w2 ⟨rfl, hc2⟩
      have HC2 := As.mk (HCZ.out.drew.trans hc2 (fun _ _ e => e))
      clear hc2
      go_wp2_with fail
      go_ret
      exact ⟨rfl, HC2.out⟩
end Go.Proofs.Ytdcamebmbadmbaa
