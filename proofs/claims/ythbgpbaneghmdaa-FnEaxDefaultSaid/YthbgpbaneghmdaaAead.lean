/- Calls of an AEAD in memory; the contracts of laws.zzFits37 and zzFits36. -/
import Derived.Test.YthbgpbaneghmdaaOpn
import Derived.Test.YthbgpbaneghmdaaRws
set_option linter.unusedVariables false
set_option linter.unusedSimpArgs false
namespace Go.Proofs.Ythbgpbaneghmdaa
open Go.RowKit V
/-- A call: open or seal, nonce, text, header, as values and as what they read. -/
structure Cal where
  op : Bool
  a : Sl
  n : List Int
  b : Sl
  t : List Int
  c : Sl
  h : List Int
def Cal.cells (x : Cal) : List Value := [.bool x.op, .slice x.a.1 x.a.2.1 x.a.2.2, .slice x.b.1 x.b.2.1 x.b.2.2, .slice x.c.1 x.c.2.1 x.c.2.2]
/-- A slice that reads as a list of bytes. -/
def Sok (w : World) (p : Sl) (xs : List Int) : Prop := p.2.1 = xs.length ∧ p.2.1 ≤ p.2.2 ∧ Rb w p.1 xs ∧ Byt xs
theorem Sok.keep {w w' : World} {p : Sl} {xs : List Int} (h : Sok w p xs) (hc : Chg NoB w w') : Sok w' p xs := ⟨h.1, h.2.1, h.2.2.1.keep hc, h.2.2.2⟩
def Cal.ok (w : World) (x : Cal) : Prop := Sok w x.a x.n ∧ Sok w x.b x.t ∧ Sok w x.c x.h
/-- A slice of calls. -/
def Rcs (w : World) (A : Option Addr) (cs : List Cal) : Prop :=
  cs.length ≤ 9223372036854775806 ∧ (0 < cs.length → ∃ ad, A = some ad ∧ ad.block < w.heap.size ∧ ∀ k (h : k < cs.length) j u, (cs[k].cells)[j]? = some u → w.cell? ((ad.add (k * 4)).add j) = some u) ∧ ∀ x ∈ cs, x.ok w
theorem Rcs.keep {w w' : World} {A : Option Addr} {cs : List Cal} (h : Rcs w A cs) (hc : Chg NoB w w') : Rcs w' A cs :=
  ⟨h.1, fun hn => by
    obtain ⟨ad, e, hb, hcell⟩ := h.2.1 hn
    exact ⟨ad, e, Nat.lt_of_lt_of_le hb hc.size, fun k hk j u hu => (hc.cell (p := (ad.add (k * 4)).add j) (by rw [add_block, add_block]; exact hb) (fun e => e)).trans (hcell k hk j u hu)⟩, fun x hx => ⟨(h.2.2 x hx).1.keep hc, (h.2.2 x hx).2.1.keep hc, (h.2.2 x hx).2.2.keep hc⟩⟩
theorem add_pos_ (p : Addr) (j : Nat) (hj : 0 < j) : p.add j = ⟨p.block, p.off + j, none⟩ := by unfold Addr.add; rw [if_neg (by omega)]
/-- A call's four cells, as the walk looks for them. -/
theorem Rcs.at_ {w : World} {A : Option Addr} {cs : List Cal} (h : Rcs w A cs) (k : Nat) (hk : k < cs.length) : ∃ ad, A = some ad ∧
    w.cell? (ad.add (k * 4)) = some (.bool cs[k].op) ∧
    w.cell? ⟨(ad.add (k * 4)).block, (ad.add (k * 4)).off + 1, none⟩ = some (.slice cs[k].a.1 cs[k].a.2.1 cs[k].a.2.2) ∧
    w.cell? ⟨(ad.add (k * 4)).block, (ad.add (k * 4)).off + 2, none⟩ = some (.slice cs[k].b.1 cs[k].b.2.1 cs[k].b.2.2) ∧
    w.cell? ⟨(ad.add (k * 4)).block, (ad.add (k * 4)).off + 3, none⟩ = some (.slice cs[k].c.1 cs[k].c.2.1 cs[k].c.2.2) := by
  obtain ⟨ad, e, hb, hcell⟩ := h.2.1 (by omega)
  refine ⟨ad, e, ?_, ?_, ?_, ?_⟩
  · have h0 := hcell k hk 0 _ rfl
    rwa [show (ad.add (k * 4)).add 0 = ad.add (k * 4) from by simp [Addr.add]] at h0
  · have h1 := hcell k hk 1 _ rfl
    rwa [add_pos_ _ 1 (by omega)] at h1
  · have h1 := hcell k hk 2 _ rfl
    rwa [add_pos_ _ 2 (by omega)] at h1
  · have h1 := hcell k hk 3 _ rfl
    rwa [add_pos_ _ 3 (by omega)] at h1
def Fit37 (x : Cal) : Prop := x.a.2.1 ≤ 2147483647 ∧ x.b.2.1 ≤ 2147483647 ∧ x.c.2.1 ≤ 2147483647
instance (x : Cal) : Decidable (Fit37 x) := inferInstanceAs (Decidable (_ ∧ _ ∧ _))
set_option maxRecDepth 100000 in
theorem fits37_any (x : Cal) (w : World) : Calls Try.prog 35 #[.agg x.cells.toArray] w fun e w' => e = .returned (.bool (decide (Fit37 x))) ∧ Chg NoB w w' := by
  obtain ⟨op, ⟨A, n, c⟩, ln, ⟨A2, n2, c2⟩, lt, ⟨A3, n3, c3⟩, lh⟩ := x
  simp only [Cal.cells]
  obtain ⟨q, hq⟩ : ∃ q : Bool, q = decide (Fit37 ⟨op, (A, n, c), ln, (A2, n2, c2), lt, (A3, n3, c3), lh⟩) := ⟨_, rfl⟩
  rw [← hq]
  have HQ : As (q = decide (n ≤ 2147483647 ∧ n2 ≤ 2147483647 ∧ n3 ≤ 2147483647)) := ⟨hq⟩
  clear hq
  by_cases h1 : (2147483647 : Int) < (n : Int)
  · go_enter Try.func35, Try.ntmps35
    go_wp2_with fail
    go_ret
    exact ⟨by rw [HQ.out, decide_eq_false (by omega)]; rfl, (Chg.refl _ _).alloc _⟩
  · by_cases h2 : (2147483647 : Int) < (n2 : Int)
    · go_enter Try.func35, Try.ntmps35
      go_wp2_with fail
      go_ret
      exact ⟨by rw [HQ.out, decide_eq_false (by omega)]; rfl, (Chg.refl _ _).alloc _⟩
    · by_cases h3 : (2147483647 : Int) < (n3 : Int)
      · go_enter Try.func35, Try.ntmps35
        go_wp2_with fail
        go_ret
        exact ⟨by rw [HQ.out, decide_eq_false (by omega)]; rfl, (Chg.refl _ _).alloc _⟩
      · go_enter Try.func35, Try.ntmps35
        go_wp2_with fail
        go_ret
        exact ⟨by rw [HQ.out, decide_eq_true (by omega)]; rfl, (Chg.refl _ _).alloc _⟩
def Fit36 (n : Nat) (cs : List Cal) : Prop := n ≤ 2147483647 ∧ ∀ x ∈ cs, Fit37 x
instance (n : Nat) (cs : List Cal) : Decidable (Fit36 n cs) := inferInstanceAs (Decidable (_ ∧ _))
set_option maxRecDepth 100000 in
set_option maxHeartbeats 1000000 in
theorem fits36_any (A : Option Addr) (n c : Nat) (cs : List Cal) (w : World) (hn : n = cs.length) (hr : Rcs w A cs) :
    Calls Try.prog 14 #[.slice A n c] w fun e w' => e = .returned (.bool (decide (Fit36 n cs))) ∧ Chg NoB w w' := by
  have HR := As.mk hr
  have HN := As.mk hn
  have hm : n ≤ 9223372036854775806 := by have := hr.1; omega
  obtain ⟨q, hq⟩ : ∃ q : Bool, q = decide (Fit36 n cs) := ⟨_, rfl⟩
  rw [← hq]
  have HQ := As.mk hq
  clear hr hn hq
  by_cases hbig : 2147483647 < n
  · have hb2 : (2147483647 : Int) < (n : Int) := by omega
    go_enter Try.func14, Try.ntmps14
    go_wp2_with fail
    go_ret
    exact ⟨by rw [HQ.out, decide_eq_false (fun h : Fit36 n cs => by have := h.1; omega)]; rfl, Chg.refl _ _⟩
  · have hb2 : ¬ (2147483647 : Int) < (n : Int) := by omega
    go_enter Try.func14, Try.ntmps14
    go_wp2_with fail
    go_loopw [10] (fun iv wr => ∃ k : Nat, k ≤ n ∧ iv = .int .i64 k ∧ As (∀ j (h : j < cs.length), j < k → Fit37 cs[j]) ∧ As (Chg NoB w wr)) (fun iv _ => n - (intOf iv).toNat)
    case atStart => exact ⟨0, Nat.zero_le _, rfl, ⟨fun j h h' => by omega⟩, ⟨Chg.refl _ _⟩⟩
    case round =>
      obtain ⟨k, hk, rfl, HT, HC⟩ := hrel
      by_cases hlt : k < n
      · have hltz : (k : Int) < (n : Int) := by omega
        have hkc : k < cs.length := by have := HN.out; omega
        obtain ⟨ad, eA, g0, g1, g2, g3⟩ := (HR.out.keep HC.out).at_ k hkc
        subst eA
        have HA := As.mk HT.out
        have HX : As (∀ q : Bool, q = decide (Fit37 cs[k]) → q = true → ∀ j (h : j < cs.length), j < k + 1 → Fit37 cs[j]) := ⟨fun q hq1 hq2 j h h' => by
          by_cases e : j = k
          · subst e; rw [hq2] at hq1; exact of_decide_eq_true hq1.symm
          · exact HA.out j h (by omega)⟩
        have HY : As (∀ q : Bool, q = decide (Fit37 cs[k]) → q = false → ¬ Fit36 n cs) := ⟨fun q hq1 hq2 h => by
          rw [hq2] at hq1
          exact of_decide_eq_false hq1.symm (h.2 _ (List.getElem_mem hkc))⟩
        obtain ⟨x, hx⟩ : ∃ x, x = cs[k] := ⟨_, rfl⟩
        rw [← hx] at g0 g1 g2 g3
        simp only [← hx] at HX HY
        have e1 : IntKind.i64.wrap ((k : Int) + 1) = ((k + 1 : Nat) : Int) := by rw [IntKind.wrap_i64]; omega
        clear hx HT
        go_wp2_with fail
        refine (fits37_any x _).mono ?_
        rintro e w2 ⟨rfl, hc2⟩
        have C2 := As.mk ((HC.out.alloc (.cells #[.bool x.op, .slice x.a.1 x.a.2.1 x.a.2.2, .slice x.b.1 x.b.2.1 x.b.2.2, .slice x.c.1 x.c.2.1 x.c.2.2] 63)).trans hc2 (fun _ _ e => e))
        obtain ⟨q2, hq2⟩ : ∃ q2 : Bool, q2 = decide (Fit37 x) := ⟨_, rfl⟩
        rw [← hq2]
        have HX2 := As.mk (HX.out q2 hq2)
        have HY2 := As.mk (HY.out q2 hq2)
        clear hc2 hq2 HX HY g0 g1 g2 g3
        cases q2 with
        | true =>
          go_wp2_with fail
          go_roundw
          case rel => exact ⟨k + 1, by omega, by go_num, ⟨HX2.out (by simp)⟩, C2⟩
          case measure => simp [intOf]; omega
        | false =>
          go_wp2_with fail
          go_ret
          exact ⟨by rw [HQ.out, decide_eq_false (HY2.out (by simp))]; rfl, C2.out⟩
      · have HB : As (Fit36 n cs) := ⟨by omega, fun v hv => by
          obtain ⟨j, hj, rfl⟩ := List.mem_iff_getElem.1 hv
          exact HT.out j hj (by have := HN.out; omega)⟩
        have hz : ¬ ((k : Int) < (n : Int)) := by omega
        go_wp2_with fail
        go_ret
        exact ⟨by rw [HQ.out, decide_eq_true HB.out]; rfl, HC.out⟩
end Go.Proofs.Ythbgpbaneghmdaa
