/- The walk of FnReadS2k. (Printed by wip/s2klaw.py.) -/
import Derived.Test.YthambncffcphkaaDoorReadS2k2
set_option linter.unusedVariables false
set_option linter.unusedSimpArgs false
namespace Go.Proofs.YthambncffcphkaaDoor
open Go.RowKit V
def Yes (W : World) (e : Ending) (w' : World) : Prop := e = .returned (.bool true) ∧ Below W.heap.size W w'
theorem yes_of {W w' : World} (h : Chg NoB W w') : Yes W (.returned (.bool true)) w' := ⟨rfl, h.below (Nat.le_refl _) (fun _ _ e => e)⟩
set_option maxRecDepth 100000 in
set_option maxHeartbeats 1000000 in
theorem law_empty (A : Option Addr) (c : Nat) (sp : Int) (W : World) (hst : Calls Tryd.prog 8 #[.slice A 0 c] W (StrBad W)) (hrd : ∀ w', Chg NoB W w' → Calls Tryd.prog 10 #[.slice A 0 c, .int .i64 sp] w' (S2kBad w')) :
    Calls Tryd.prog 4 #[.slice A 0 c, .int .i64 sp] W (Yes W) := by
  have HST := As.mk hst
  have HRD := As.mk hrd
  clear hst hrd
  go_enter Tryd.func4, Tryd.ntmps4
  go_wp2_with fail
  refine HST.out.mono ?_
  rintro e w1 ⟨hc1, h, hh, rfl⟩
  have hb0 : (h == 0) = false := by simpa using hh
  have hb1 : (h != 0) = true := by simpa using hh
  have HC1 := As.mk hc1
  clear hc1 hh
  go_wp2_with fail
  refine (HRD.out _ (HC1.out.alloc _)).mono ?_
  rintro e w2 ⟨hc2, h2, hh2, rfl⟩
  have hb2 : (h2 != 0) = true := by simpa using hh2
  have HC2 := As.mk ((HC1.out.alloc (.cells #[.int .i64 0, .int .i64 0, .slice none 0 0, .int .u8 0, .int .u8 0, .int .u8 0, .int .u8 0] 32)).trans hc2 (fun _ _ e => e))
  clear hc2 hh2
  go_wp2_with fail
  go_ret
  exact yes_of (by repeat (first | exact HC2.out | (with_reducible apply Chg.alloc)))
set_option maxRecDepth 100000 in
set_option maxHeartbeats 1000000 in
theorem law_bad (A : Option Addr) (L c : Nat) (xs : List Int) (sp : Int) (W : World) (hl : L ≤ 1048576) (h0 : 0 < L) (hn : L = xs.length) (hx : Rb W A xs) (hb : Byt xs) (hk : rd xs 0 ≠ 101) (hst : Calls Tryd.prog 8 #[.slice A L c] W (StrBad W)) (hrd : ∀ w', Chg NoB W w' → Calls Tryd.prog 10 #[.slice A L c, .int .i64 sp] w' (S2kBad w')) :
    Calls Tryd.prog 4 #[.slice A L c, .int .i64 sp] W (Yes W) := by
  have HST := As.mk hst
  have HRD := As.mk hrd
  have HX := As.mk hx
  obtain ⟨a0, rfl, _⟩ := hx.at_ 0 (by omega) (by omega)
  have HCA : As (∀ w', Chg NoB W w' → w'.cell? a0 = some (.int .u8 (rd xs 0))) := ⟨fun w' hc => by
    obtain ⟨ad, e, hc⟩ := (hx.keep hc).at_ 0 (by omega) (by omega)
    injection e with e
    subst e
    simpa [Addr.add] using hc⟩
  have hr0 := (hb.rd 0).1
  have hr1 := (hb.rd 0).2
  have hLp : (0 : Int) < (L : Int) := by omega
  have bk : (rd xs 0 == 101) = false := by simpa using hk
  generalize rd xs 0 = f at *
  clear hst hrd hx hb hk hn
  go_enter Tryd.func4, Tryd.ntmps4
  go_wp2_with fail
  refine HST.out.mono ?_
  rintro e w1 ⟨hc1, h, hh, rfl⟩
  have hb0 : (h == 0) = false := by simpa using hh
  have hb1 : (h != 0) = true := by simpa using hh
  have HC1 := As.mk hc1
  have hcA := fun o => HCA.out (w1.alloc o) (hc1.alloc o)
  clear hc1 hh
  go_wp2_with fail
  refine (HRD.out _ (HC1.out.alloc _)).mono ?_
  rintro e w2 ⟨hc2, h2, hh2, rfl⟩
  have hb2 : (h2 != 0) = true := by simpa using hh2
  have HC2 := As.mk ((HC1.out.alloc (.cells #[.int .i64 0, .int .i64 0, .slice none 0 0, .int .u8 0, .int .u8 0, .int .u8 0, .int .u8 0] 32)).trans hc2 (fun _ _ e => e))
  clear hc2 hh2 hcA
  go_wp2_with fail
  go_ret
  exact yes_of (by repeat (first | exact HC2.out | (with_reducible apply Chg.alloc)))
set_option maxRecDepth 100000 in
set_option maxHeartbeats 1000000 in
theorem law_gnu_bad (A : Option Addr) (L c : Nat) (xs : List Int) (sp : Int) (W : World) (hl : L ≤ 1048576) (h0 : 0 < L) (hn : L = xs.length) (hx : Rb W A xs) (hk : rd xs 0 = 101) (hst : Calls Tryd.prog 8 #[.slice A L c] W (fun e w' => GnuOf W (rd xs 1) e w')) :
    Calls Tryd.prog 4 #[.slice A L c, .int .i64 sp] W (Yes W) := by
  have HST := As.mk hst
  obtain ⟨a0, rfl, _⟩ := hx.at_ 0 (by omega) (by omega)
  have HCA : As (∀ w', Chg NoB W w' → w'.cell? a0 = some (.int .u8 101)) := ⟨fun w' hc => by
    obtain ⟨ad, e, hc⟩ := (hx.keep hc).at_ 0 (by omega) (by omega)
    injection e with e
    subst e
    rw [hk] at hc
    simpa [Addr.add] using hc⟩
  have hLp : (0 : Int) < (L : Int) := by omega
  clear hst hx hk hn
  go_enter Tryd.func4, Tryd.ntmps4
  go_wp2_with fail
  refine HST.out.mono ?_
  intro e w1 hg
  rcases hg with ⟨hc1, h, hh, rfl⟩ | ⟨hc1, A1, n1, c1, hn1, rfl, _⟩
  · have hb0 : (h == 0) = false := by simpa using hh
    have HC1 := As.mk hc1
    have hcA := fun o => HCA.out (w1.alloc o) (hc1.alloc o)
    clear hc1 hh
    go_wp2_with fail
    go_ret
    exact yes_of (by repeat (first | exact HC1.out | (with_reducible apply Chg.alloc)))
  · have HC1 := As.mk hc1
    clear hc1
    go_wp2_with fail
    refine (isStr_gnu _ _ _ _ _ _ _).mono ?_
    rintro e w2 ⟨rfl, hc2⟩
    have HC2 := As.mk ((HC1.out.alloc _).trans hc2 (fun _ _ e => e))
    clear hc2
    go_wp2_with fail
    go_ret
    exact yes_of (by repeat (first | exact HC2.out | (with_reducible apply Chg.alloc)))
set_option maxRecDepth 100000 in
set_option maxHeartbeats 2000000 in
theorem law_ok (k : Nat) (h cnt p y r : Int) (salt : List Int) (size : Nat) (A : Option Addr) (L c : Nat) (xs : List Int) (sp : Int) (W : World) (hl : L ≤ 1048576) (h0 : 0 < L) (hn : L = xs.length) (hx : Rb W A xs) (hk : rd xs 0 = (k : Int)) (hk5 : k ≤ 4) (hh0 : 0 ≤ h) (hh1 : h ≤ 255)
    (hst : Calls Tryd.prog 8 #[.slice A L c] W (StrOf W k h salt cnt p y r size))
    (his : ∀ (S : Value) (w' : World), Chg NoB W w' → Calls Tryd.prog 9 #[.agg #[.int .i64 k, .int .i64 h, S, .int .u8 cnt, .int .u8 p, .int .u8 y, .int .u8 r]] w' fun e w'' => ∃ b : Bool, e = .returned (.bool b) ∧ Chg NoB w' w'' ∧ (b = true → ∀ w3, Chg NoB W w3 → Calls Tryd.prog 10 #[.slice A L c, .int .i64 sp] w3 (S2kOf w3 k h salt cnt p y r size))) :
    Calls Tryd.prog 4 #[.slice A L c, .int .i64 sp] W (Yes W) := by
  have HST := As.mk hst
  have HIS := As.mk his
  obtain ⟨a0, rfl, _⟩ := hx.at_ 0 (by omega) (by omega)
  have HCA : As (∀ w', Chg NoB W w' → w'.cell? a0 = some (.int .u8 (k : Int))) := ⟨fun w' hc => by
    obtain ⟨ad, e, hc⟩ := (hx.keep hc).at_ 0 (by omega) (by omega)
    injection e with e
    subst e
    rw [hk] at hc
    simpa [Addr.add] using hc⟩
  have hLp : (0 : Int) < (L : Int) := by omega
  have bk : ((k : Int) == 101) = false := by simp; omega
  have hk4 : (k : Int) ≤ 4 := by omega
  clear hst his hx hk hn hk5
  go_enter Tryd.func4, Tryd.ntmps4
  go_wp2_with fail
  refine HST.out.mono ?_
  rintro e w1 ⟨hc1, A1, n1, c1, hn1, rfl, hr1⟩
  have HC1 := As.mk hc1
  have HN1 := As.mk hn1
  have HR1 := As.mk hr1
  clear hc1 hn1 hr1
  obtain ⟨wA, hwA⟩ : ∃ wA, wA = w1.alloc (.cells #[.int .i64 (k : Int), .int .i64 h, .slice A1 n1 c1, .int .u8 cnt, .int .u8 p, .int .u8 y, .int .u8 r] 32) := ⟨_, rfl⟩
  have CA : As (Chg NoB W wA) := ⟨by rw [hwA]; exact HC1.out.alloc _⟩
  have BA : As (Blk wA w1.heap.size 32 [.int .i64 (k : Int), .int .i64 h, .slice A1 n1 c1, .int .u8 cnt, .int .u8 p, .int .u8 y, .int .u8 r]) := ⟨by rw [hwA]; exact boxed7 _ _ _ _ _ _ _ _ _⟩
  have RA : As (Rb wA A1 salt) := ⟨by rw [hwA]; exact HR1.out.alloc _⟩
  go_upto_region 6 with fail
  rw [← hwA]
  have ba := BA.out
  have x0 := ba.cell 0
  have x1 := ba.cell 1
  have x2 := ba.cell 2
  have x3 := ba.cell 3
  have x4 := ba.cell 4
  have x5 := ba.cell 5
  have x6 := ba.cell 6
  simp only [List.getElem?_cons_zero, List.getElem?_cons_succ] at x0 x1 x2 x3 x4 x5 x6
  clear hwA ba
  go_wp2_with fail
  refine (HIS.out _ _ CA.out).mono ?_
  rintro e w2 ⟨b, rfl, hc2, hgood⟩
  cases b with
  | false =>
    have C2 := As.mk (CA.out.trans hc2 (fun _ _ e => e))
    clear hc2 hgood
    go_wp2_with fail
    go_ret
    exact yes_of C2.out
  | true =>
    have hgd := hgood rfl
    have HG := As.mk hgd
    have C2 := As.mk (CA.out.trans hc2 (fun _ _ e => e))
    have hcA := HCA.out w2 C2.out
    have B2 := As.mk (BA.out.chg hc2 (fun e => e))
    have R2 := As.mk (RA.out.keep hc2)
    clear hc2 hgood hgd x0 x1 x2 x3 x4 x5 x6
    go_wp2_with fail
    refine (HG.out _ C2.out).mono ?_
    rintro e w3 ⟨hc3, A3, n3, c3, hn3, rfl, hr3⟩
    have C3 := As.mk (C2.out.trans hc3 (fun _ _ e => e))
    have B3 := As.mk (B2.out.chg hc3 (fun e => e))
    have R3 := As.mk (R2.out.keep hc3)
    have HN3 := As.mk hn3
    have HR3 := As.mk hr3
    clear hc3 hn3 hr3 hcA
    go_upto_region 9 with fail
    obtain ⟨wB, hwB⟩ : ∃ wB, wB = w3.alloc (.cells #[.int .u8 (k : Int), .int .u8 h, .slice A3 n3 c3, .int .u8 cnt, .int .u8 p, .int .u8 y, .int .u8 r] 37) := ⟨_, rfl⟩
    have CB : As (Chg NoB W wB) := ⟨by rw [hwB]; exact C3.out.alloc _⟩
    have bb : Blk wB w3.heap.size 37 [.int .u8 (k : Int), .int .u8 h, .slice A3 n3 c3, .int .u8 cnt, .int .u8 p, .int .u8 y, .int .u8 r] := by rw [hwB]; exact boxed7 _ _ _ _ _ _ _ _ _
    have ba : Blk wB w1.heap.size 32 [.int .i64 (k : Int), .int .i64 h, .slice A1 n1 c1, .int .u8 cnt, .int .u8 p, .int .u8 y, .int .u8 r] := by rw [hwB]; exact B3.out.alloc _
    have RB1 : As (Rb wB A1 salt) := ⟨by rw [hwB]; exact R3.out.alloc _⟩
    have RB3 : As (Rb wB A3 salt) := ⟨by rw [hwB]; exact HR3.out.alloc _⟩
    rw [← hwB]
    have x0 := ba.cell 0
    have x1 := ba.cell 1
    have x2 := ba.cell 2
    have x3 := ba.cell 3
    have x4 := ba.cell 4
    have x5 := ba.cell 5
    have x6 := ba.cell 6
    have z0 := bb.cell 0
    have z1 := bb.cell 1
    have z2 := bb.cell 2
    have z3 := bb.cell 3
    have z4 := bb.cell 4
    have z5 := bb.cell 5
    have z6 := bb.cell 6
    simp only [List.getElem?_cons_zero, List.getElem?_cons_succ] at x0 x1 x2 x3 x4 x5 x6 z0 z1 z2 z3 z4 z5 z6
    clear hwB ba bb
    go_wp2_with fail
    refine (isS2k_yes (k : Int) h cnt p y r A3 n3 c3 A1 n1 c1 salt _ HN3.out HN1.out RB3.out RB1.out (by omega) (by omega) hh0 hh1).mono ?_
    rintro e w4 ⟨rfl, hc4⟩
    have C4 := As.mk (CB.out.trans hc4 (fun _ _ e => e))
    clear hc4 x0 x1 x2 x3 x4 x5 x6 z0 z1 z2 z3 z4 z5 z6
    go_wp2_with fail
    go_ret
    exact yes_of C4.out
theorem cons_of (l : List Int) (h : 0 < l.length) : ∃ x t, l = x :: t := by cases l with
  | nil => simp at h
  | cons x t => exact ⟨x, t, rfl⟩
theorem sent_lts {W : World} {a0 a1 : Addr} (h : Sent W a0 a1) : 0 < W.heap.size ∧ 1 < W.heap.size ∧ a0.block < W.heap.size ∧ a1.block < W.heap.size := h.lts
theorem sent_w2 {A : Option Addr} {n c : Nat} {sp : Int} {w : World} {a0 a1 : Addr} (h : Sent w a0 a1) : Sent (W2 A n c sp w) a0 a1 := h.keep (((Chg.refl NoB w).alloc _).alloc _)
theorem case_other (A : Option Addr) (L c : Nat) (xs : List Int) (sp : Int) (W : World) (a0 a1 : Addr) (hS : Sent W a0 a1) (hn : L = xs.length) (hc : L ≤ c) (hx : Rb W A xs) (hb : Byt xs) (hl : L ≤ 1048576) (h0 : 0 < L) (k0 : rd xs 0 ≠ 0) (k1 : rd xs 0 ≠ 1) (k3 : rd xs 0 ≠ 3) (k4 : rd xs 0 ≠ 4) (k5 : rd xs 0 ≠ 101) : Calls Tryd.prog 4 #[.slice A L c, .int .i64 sp] W (Yes W) := by
  refine law_bad A L c xs sp W hl h0 hn hx hb k5 (stretch_other A L c xs W hn hc hx hb hl h0 k0 k1 k3 k4 k5) (fun w' hw => readS2k_bad A L c xs sp w' a0 a1 (hS.keep hw) hn hc (hx.keep hw) ?_)
  obtain ⟨x0, t0, rfl⟩ := cons_of xs (by omega)
  have hsrc := (w2_src (sp := sp) hn hc (hx.keep hw)).1
  have hz := (w2_src (sp := sp) hn hc (hx.keep hw)).2.2.2
  have hlt := (hS.keep hw).lts
  have hr := hb.rd 0
  exact parse_other w'.heap.size (w'.heap.size + 1) sp _ a0 a1 (sent_w2 (hS.keep hw)) hlt (by omega) x0 t0 hsrc (by omega) k0 k1 k3 k4 k5 hr.1 hr.2
theorem case_empty (A : Option Addr) (L c : Nat) (xs : List Int) (sp : Int) (W : World) (a0 a1 : Addr) (hS : Sent W a0 a1) (hn : L = xs.length) (hc : L ≤ c) (hx : Rb W A xs) (hb : Byt xs) (hl : L ≤ 1048576) (h0 : L = 0) : Calls Tryd.prog 4 #[.slice A L c, .int .i64 sp] W (Yes W) := by
  subst h0
  have : xs = [] := List.eq_nil_of_length_eq_zero hn.symm
  subst this
  refine law_empty A c sp W (stretch_empty A 0 c [] W hn hc hx hb hl rfl) (fun w' hw => readS2k_bad A 0 c [] sp w' a0 a1 (hS.keep hw) hn hc (hx.keep hw) ?_)
  exact parse_none w'.heap.size (w'.heap.size + 1) sp _ a0 a1 (sent_w2 (hS.keep hw)) (hS.keep hw).lts (by omega) (w2_src (sp := sp) hn hc (hx.keep hw)).1
theorem case_gnu (A : Option Addr) (L c : Nat) (xs : List Int) (sp : Int) (W : World) (a0 a1 : Addr) (hS : Sent W a0 a1) (hn : L = xs.length) (hc : L ≤ c) (hx : Rb W A xs) (hb : Byt xs) (hl : L ≤ 1048576) (h0 : 0 < L) (k5 : rd xs 0 = 101) : Calls Tryd.prog 4 #[.slice A L c, .int .i64 sp] W (Yes W) := by
  refine law_gnu_bad A L c xs sp W hl h0 hn hx k5 ?_
  by_cases h6 : L < 6
  · exact (stretch_short101 A L c xs W hn hc hx hb hl k5 h0 h6).mono fun e w' h => gnu_bad h
  · exact stretch_101 A L c xs W hn hc hx hb hl k5 (by omega)
theorem case_short0 (A : Option Addr) (L c : Nat) (xs : List Int) (sp : Int) (W : World) (a0 a1 : Addr) (hS : Sent W a0 a1) (hn : L = xs.length) (hc : L ≤ c) (hx : Rb W A xs) (hb : Byt xs) (hl : L ≤ 1048576) (h0 : 0 < L) (hk : rd xs 0 = 0) (hsh : L < 2) : Calls Tryd.prog 4 #[.slice A L c, .int .i64 sp] W (Yes W) := by
  refine law_bad A L c xs sp W hl h0 hn hx hb (by rw [hk]; decide) (stretch_short0 A L c xs W hn hc hx hb hl hk h0 hsh) (fun w' hw => readS2k_bad A L c xs sp w' a0 a1 (hS.keep hw) hn hc (hx.keep hw) ?_)
  obtain ⟨x0, t0, rfl⟩ := cons_of xs (by omega)
  obtain rfl : x0 = 0 := hk
  have hsrc := (w2_src (sp := sp) hn hc (hx.keep hw)).1
  exact parse_short0 w'.heap.size (w'.heap.size + 1) sp _ a0 a1 (sent_w2 (hS.keep hw)) (hS.keep hw).lts (by omega) t0 hsrc (by omega) (by simp only [List.length_cons] at hn; omega)
theorem case_0 (A : Option Addr) (L c : Nat) (xs : List Int) (sp : Int) (W : World) (a0 a1 : Addr) (hS : Sent W a0 a1) (hn : L = xs.length) (hc : L ≤ c) (hx : Rb W A xs) (hb : Byt xs) (hl : L ≤ 1048576) (hk : rd xs 0 = 0) (hlen : 2 ≤ L) : Calls Tryd.prog 4 #[.slice A L c, .int .i64 sp] W (Yes W) := by
  have hst := stretch_0 A L c xs W hn hc hx hb hl hk hlen
  subst hn
  obtain ⟨x0, t0, rfl⟩ := cons_of xs (by (try simp only [List.length_cons] at hlen); omega)
  obtain ⟨x1, t1, rfl⟩ := cons_of t0 (by (try simp only [List.length_cons] at hlen); omega)
  obtain rfl : x0 = 0 := hk
  have hrest : t1.length + 2 = (0 :: x1 :: t1).length := by simp only [List.length_cons]
  have hread : ∀ w', Chg NoB W w' → Calls Tryd.prog 10 #[.slice A _ c, .int .i64 sp] w' (S2kOf w' ((0 : Nat) : Int) x1 [] 0 0 0 0 2) := fun w' hw => by
    have h := readS2k_ok 0 [0, x1, 0, 0, 0, 0, 0, 0, 0, 0, 0, 0, 0, 0, 0, 0, 0, 0, 0, 0, 0, 0] t1 2 A _ c _ sp w' rfl hc hl (hx.keep hw) (by omega) rfl rfl hrest (parse_0 w'.heap.size (w'.heap.size + 1) sp _ a0 a1 (sent_w2 (hS.keep hw)) (hS.keep hw).lts (by omega) x1 t1 (w2_src (sp := sp) rfl hc (hx.keep hw)).1 (by omega))
    exact h
  have b1 := hb.rd 1
  exact law_ok 0 x1 0 0 0 0 [] 2 A _ c _ sp W hl (by simp) rfl hx rfl (by decide) b1.1 b1.2 hst (fun S w2 hw2 => (isStr_hash 0 x1 0 0 0 0 S w2 (by decide) (by decide)).mono fun e w3 ⟨b, he, hcw⟩ => ⟨b, he, hcw, fun _ => hread⟩)
theorem case_short1 (A : Option Addr) (L c : Nat) (xs : List Int) (sp : Int) (W : World) (a0 a1 : Addr) (hS : Sent W a0 a1) (hn : L = xs.length) (hc : L ≤ c) (hx : Rb W A xs) (hb : Byt xs) (hl : L ≤ 1048576) (h0 : 0 < L) (hk : rd xs 0 = 1) (hsh : L < 10) : Calls Tryd.prog 4 #[.slice A L c, .int .i64 sp] W (Yes W) := by
  refine law_bad A L c xs sp W hl h0 hn hx hb (by rw [hk]; decide) (stretch_short1 A L c xs W hn hc hx hb hl hk h0 hsh) (fun w' hw => readS2k_bad A L c xs sp w' a0 a1 (hS.keep hw) hn hc (hx.keep hw) ?_)
  obtain ⟨x0, t0, rfl⟩ := cons_of xs (by omega)
  obtain rfl : x0 = 1 := hk
  have hsrc := (w2_src (sp := sp) hn hc (hx.keep hw)).1
  exact parse_short1 w'.heap.size (w'.heap.size + 1) sp _ a0 a1 (sent_w2 (hS.keep hw)) (hS.keep hw).lts (by omega) t0 hsrc (by omega) (by simp only [List.length_cons] at hn; omega)
theorem case_1 (A : Option Addr) (L c : Nat) (xs : List Int) (sp : Int) (W : World) (a0 a1 : Addr) (hS : Sent W a0 a1) (hn : L = xs.length) (hc : L ≤ c) (hx : Rb W A xs) (hb : Byt xs) (hl : L ≤ 1048576) (hk : rd xs 0 = 1) (hlen : 10 ≤ L) : Calls Tryd.prog 4 #[.slice A L c, .int .i64 sp] W (Yes W) := by
  have hst := stretch_1 A L c xs W hn hc hx hb hl hk hlen
  subst hn
  obtain ⟨x0, t0, rfl⟩ := cons_of xs (by (try simp only [List.length_cons] at hlen); omega)
  obtain ⟨x1, t1, rfl⟩ := cons_of t0 (by (try simp only [List.length_cons] at hlen); omega)
  obtain ⟨x2, t2, rfl⟩ := cons_of t1 (by (try simp only [List.length_cons] at hlen); omega)
  obtain ⟨x3, t3, rfl⟩ := cons_of t2 (by (try simp only [List.length_cons] at hlen); omega)
  obtain ⟨x4, t4, rfl⟩ := cons_of t3 (by (try simp only [List.length_cons] at hlen); omega)
  obtain ⟨x5, t5, rfl⟩ := cons_of t4 (by (try simp only [List.length_cons] at hlen); omega)
  obtain ⟨x6, t6, rfl⟩ := cons_of t5 (by (try simp only [List.length_cons] at hlen); omega)
  obtain ⟨x7, t7, rfl⟩ := cons_of t6 (by (try simp only [List.length_cons] at hlen); omega)
  obtain ⟨x8, t8, rfl⟩ := cons_of t7 (by (try simp only [List.length_cons] at hlen); omega)
  obtain ⟨x9, t9, rfl⟩ := cons_of t8 (by (try simp only [List.length_cons] at hlen); omega)
  obtain rfl : x0 = 1 := hk
  have hrest : t9.length + 10 = (1 :: x1 :: x2 :: x3 :: x4 :: x5 :: x6 :: x7 :: x8 :: x9 :: t9).length := by simp only [List.length_cons]
  have hread : ∀ w', Chg NoB W w' → Calls Tryd.prog 10 #[.slice A _ c, .int .i64 sp] w' (S2kOf w' ((1 : Nat) : Int) x1 [x2, x3, x4, x5, x6, x7, x8, x9] 0 0 0 0 10) := fun w' hw => by
    have h := readS2k_ok 1 [1, x1, x2, x3, x4, x5, x6, x7, x8, x9, 0, 0, 0, 0, 0, 0, 0, 0, 0, 0, 0, 0] t9 10 A _ c _ sp w' rfl hc hl (hx.keep hw) (by omega) rfl rfl hrest (parse_1 w'.heap.size (w'.heap.size + 1) sp _ a0 a1 (sent_w2 (hS.keep hw)) (hS.keep hw).lts (by omega) x1 x2 x3 x4 x5 x6 x7 x8 x9 t9 (w2_src (sp := sp) rfl hc (hx.keep hw)).1 (by omega))
    exact h
  have b1 := hb.rd 1
  exact law_ok 1 x1 0 0 0 0 [x2, x3, x4, x5, x6, x7, x8, x9] 10 A _ c _ sp W hl (by simp) rfl hx rfl (by decide) b1.1 b1.2 hst (fun S w2 hw2 => (isStr_hash 1 x1 0 0 0 0 S w2 (by decide) (by decide)).mono fun e w3 ⟨b, he, hcw⟩ => ⟨b, he, hcw, fun _ => hread⟩)
theorem case_short3 (A : Option Addr) (L c : Nat) (xs : List Int) (sp : Int) (W : World) (a0 a1 : Addr) (hS : Sent W a0 a1) (hn : L = xs.length) (hc : L ≤ c) (hx : Rb W A xs) (hb : Byt xs) (hl : L ≤ 1048576) (h0 : 0 < L) (hk : rd xs 0 = 3) (hsh : L < 11) : Calls Tryd.prog 4 #[.slice A L c, .int .i64 sp] W (Yes W) := by
  refine law_bad A L c xs sp W hl h0 hn hx hb (by rw [hk]; decide) (stretch_short3 A L c xs W hn hc hx hb hl hk h0 hsh) (fun w' hw => readS2k_bad A L c xs sp w' a0 a1 (hS.keep hw) hn hc (hx.keep hw) ?_)
  obtain ⟨x0, t0, rfl⟩ := cons_of xs (by omega)
  obtain rfl : x0 = 3 := hk
  have hsrc := (w2_src (sp := sp) hn hc (hx.keep hw)).1
  exact parse_short3 w'.heap.size (w'.heap.size + 1) sp _ a0 a1 (sent_w2 (hS.keep hw)) (hS.keep hw).lts (by omega) t0 hsrc (by omega) (by simp only [List.length_cons] at hn; omega)
theorem case_3 (A : Option Addr) (L c : Nat) (xs : List Int) (sp : Int) (W : World) (a0 a1 : Addr) (hS : Sent W a0 a1) (hn : L = xs.length) (hc : L ≤ c) (hx : Rb W A xs) (hb : Byt xs) (hl : L ≤ 1048576) (hk : rd xs 0 = 3) (hlen : 11 ≤ L) : Calls Tryd.prog 4 #[.slice A L c, .int .i64 sp] W (Yes W) := by
  have hst := stretch_3 A L c xs W hn hc hx hb hl hk hlen
  subst hn
  obtain ⟨x0, t0, rfl⟩ := cons_of xs (by (try simp only [List.length_cons] at hlen); omega)
  obtain ⟨x1, t1, rfl⟩ := cons_of t0 (by (try simp only [List.length_cons] at hlen); omega)
  obtain ⟨x2, t2, rfl⟩ := cons_of t1 (by (try simp only [List.length_cons] at hlen); omega)
  obtain ⟨x3, t3, rfl⟩ := cons_of t2 (by (try simp only [List.length_cons] at hlen); omega)
  obtain ⟨x4, t4, rfl⟩ := cons_of t3 (by (try simp only [List.length_cons] at hlen); omega)
  obtain ⟨x5, t5, rfl⟩ := cons_of t4 (by (try simp only [List.length_cons] at hlen); omega)
  obtain ⟨x6, t6, rfl⟩ := cons_of t5 (by (try simp only [List.length_cons] at hlen); omega)
  obtain ⟨x7, t7, rfl⟩ := cons_of t6 (by (try simp only [List.length_cons] at hlen); omega)
  obtain ⟨x8, t8, rfl⟩ := cons_of t7 (by (try simp only [List.length_cons] at hlen); omega)
  obtain ⟨x9, t9, rfl⟩ := cons_of t8 (by (try simp only [List.length_cons] at hlen); omega)
  obtain ⟨x10, t10, rfl⟩ := cons_of t9 (by (try simp only [List.length_cons] at hlen); omega)
  obtain rfl : x0 = 3 := hk
  have hrest : t10.length + 11 = (3 :: x1 :: x2 :: x3 :: x4 :: x5 :: x6 :: x7 :: x8 :: x9 :: x10 :: t10).length := by simp only [List.length_cons]
  have hread : ∀ w', Chg NoB W w' → Calls Tryd.prog 10 #[.slice A _ c, .int .i64 sp] w' (S2kOf w' ((3 : Nat) : Int) x1 [x2, x3, x4, x5, x6, x7, x8, x9] x10 0 0 0 11) := fun w' hw => by
    have h := readS2k_ok 3 [3, x1, x2, x3, x4, x5, x6, x7, x8, x9, 0, 0, 0, 0, 0, 0, 0, 0, x10, 0, 0, 0] t10 11 A _ c _ sp w' rfl hc hl (hx.keep hw) (by omega) rfl rfl hrest (parse_3 w'.heap.size (w'.heap.size + 1) sp _ a0 a1 (sent_w2 (hS.keep hw)) (hS.keep hw).lts (by omega) x1 x2 x3 x4 x5 x6 x7 x8 x9 x10 t10 (w2_src (sp := sp) rfl hc (hx.keep hw)).1 (by omega))
    exact h
  have b1 := hb.rd 1
  exact law_ok 3 x1 x10 0 0 0 [x2, x3, x4, x5, x6, x7, x8, x9] 11 A _ c _ sp W hl (by simp) rfl hx rfl (by decide) b1.1 b1.2 hst (fun S w2 hw2 => (isStr_hash 3 x1 x10 0 0 0 S w2 (by decide) (by decide)).mono fun e w3 ⟨b, he, hcw⟩ => ⟨b, he, hcw, fun _ => hread⟩)
theorem case_short4 (A : Option Addr) (L c : Nat) (xs : List Int) (sp : Int) (W : World) (a0 a1 : Addr) (hS : Sent W a0 a1) (hn : L = xs.length) (hc : L ≤ c) (hx : Rb W A xs) (hb : Byt xs) (hl : L ≤ 1048576) (h0 : 0 < L) (hk : rd xs 0 = 4) (hsh : L < 20) : Calls Tryd.prog 4 #[.slice A L c, .int .i64 sp] W (Yes W) := by
  refine law_bad A L c xs sp W hl h0 hn hx hb (by rw [hk]; decide) (stretch_short4 A L c xs W hn hc hx hb hl hk h0 hsh) (fun w' hw => readS2k_bad A L c xs sp w' a0 a1 (hS.keep hw) hn hc (hx.keep hw) ?_)
  obtain ⟨x0, t0, rfl⟩ := cons_of xs (by omega)
  obtain rfl : x0 = 4 := hk
  have hsrc := (w2_src (sp := sp) hn hc (hx.keep hw)).1
  exact parse_short4 w'.heap.size (w'.heap.size + 1) sp _ a0 a1 (sent_w2 (hS.keep hw)) (hS.keep hw).lts (by omega) t0 hsrc (by omega) (by simp only [List.length_cons] at hn; omega)
theorem case_4 (A : Option Addr) (L c : Nat) (xs : List Int) (sp : Int) (W : World) (a0 a1 : Addr) (hS : Sent W a0 a1) (hn : L = xs.length) (hc : L ≤ c) (hx : Rb W A xs) (hb : Byt xs) (hl : L ≤ 1048576) (hk : rd xs 0 = 4) (hlen : 20 ≤ L) : Calls Tryd.prog 4 #[.slice A L c, .int .i64 sp] W (Yes W) := by
  have hst := stretch_4 A L c xs W hn hc hx hb hl hk hlen
  subst hn
  obtain ⟨x0, t0, rfl⟩ := cons_of xs (by (try simp only [List.length_cons] at hlen); omega)
  obtain ⟨x1, t1, rfl⟩ := cons_of t0 (by (try simp only [List.length_cons] at hlen); omega)
  obtain ⟨x2, t2, rfl⟩ := cons_of t1 (by (try simp only [List.length_cons] at hlen); omega)
  obtain ⟨x3, t3, rfl⟩ := cons_of t2 (by (try simp only [List.length_cons] at hlen); omega)
  obtain ⟨x4, t4, rfl⟩ := cons_of t3 (by (try simp only [List.length_cons] at hlen); omega)
  obtain ⟨x5, t5, rfl⟩ := cons_of t4 (by (try simp only [List.length_cons] at hlen); omega)
  obtain ⟨x6, t6, rfl⟩ := cons_of t5 (by (try simp only [List.length_cons] at hlen); omega)
  obtain ⟨x7, t7, rfl⟩ := cons_of t6 (by (try simp only [List.length_cons] at hlen); omega)
  obtain ⟨x8, t8, rfl⟩ := cons_of t7 (by (try simp only [List.length_cons] at hlen); omega)
  obtain ⟨x9, t9, rfl⟩ := cons_of t8 (by (try simp only [List.length_cons] at hlen); omega)
  obtain ⟨x10, t10, rfl⟩ := cons_of t9 (by (try simp only [List.length_cons] at hlen); omega)
  obtain ⟨x11, t11, rfl⟩ := cons_of t10 (by (try simp only [List.length_cons] at hlen); omega)
  obtain ⟨x12, t12, rfl⟩ := cons_of t11 (by (try simp only [List.length_cons] at hlen); omega)
  obtain ⟨x13, t13, rfl⟩ := cons_of t12 (by (try simp only [List.length_cons] at hlen); omega)
  obtain ⟨x14, t14, rfl⟩ := cons_of t13 (by (try simp only [List.length_cons] at hlen); omega)
  obtain ⟨x15, t15, rfl⟩ := cons_of t14 (by (try simp only [List.length_cons] at hlen); omega)
  obtain ⟨x16, t16, rfl⟩ := cons_of t15 (by (try simp only [List.length_cons] at hlen); omega)
  obtain ⟨x17, t17, rfl⟩ := cons_of t16 (by (try simp only [List.length_cons] at hlen); omega)
  obtain ⟨x18, t18, rfl⟩ := cons_of t17 (by (try simp only [List.length_cons] at hlen); omega)
  obtain ⟨x19, t19, rfl⟩ := cons_of t18 (by (try simp only [List.length_cons] at hlen); omega)
  obtain rfl : x0 = 4 := hk
  have hrest : t19.length + 20 = (4 :: x1 :: x2 :: x3 :: x4 :: x5 :: x6 :: x7 :: x8 :: x9 :: x10 :: x11 :: x12 :: x13 :: x14 :: x15 :: x16 :: x17 :: x18 :: x19 :: t19).length := by simp only [List.length_cons]
  have b17 := hb.rd 17
  have b18 := hb.rd 18
  have b19 := hb.rd 19
  have e17 : rd (4 :: x1 :: x2 :: x3 :: x4 :: x5 :: x6 :: x7 :: x8 :: x9 :: x10 :: x11 :: x12 :: x13 :: x14 :: x15 :: x16 :: x17 :: x18 :: x19 :: t19) 17 = x17 := rfl
  have e18 : rd (4 :: x1 :: x2 :: x3 :: x4 :: x5 :: x6 :: x7 :: x8 :: x9 :: x10 :: x11 :: x12 :: x13 :: x14 :: x15 :: x16 :: x17 :: x18 :: x19 :: t19) 18 = x18 := rfl
  have e19 : rd (4 :: x1 :: x2 :: x3 :: x4 :: x5 :: x6 :: x7 :: x8 :: x9 :: x10 :: x11 :: x12 :: x13 :: x14 :: x15 :: x16 :: x17 :: x18 :: x19 :: t19) 19 = x19 := rfl
  rw [e17] at b17
  rw [e18] at b18
  rw [e19] at b19
  obtain ⟨mm, hmm⟩ := Int.eq_ofNat_of_zero_le b19.1
  have hread : x17 ≠ 0 → x18 ≠ 0 → mm ≤ 31 → x18 * 8 ≤ ((2 ^ mm : Nat) : Int) → ∀ w', Chg NoB W w' → Calls Tryd.prog 10 #[.slice A _ c, .int .i64 sp] w' (S2kOf w' ((4 : Nat) : Int) 0 [x1, x2, x3, x4, x5, x6, x7, x8, x9, x10, x11, x12, x13, x14, x15, x16] 0 x17 x18 x19 20) := fun hp hy hm hv w' hw => by
    have h := readS2k_ok 4 [4, 0, x1, x2, x3, x4, x5, x6, x7, x8, x9, x10, x11, x12, x13, x14, x15, x16, 0, x17, x18, x19] t19 20 A _ c _ sp w' rfl hc hl (hx.keep hw) (by omega) rfl rfl hrest (parse_4 w'.heap.size (w'.heap.size + 1) sp _ a0 a1 (sent_w2 (hS.keep hw)) (hS.keep hw).lts (by omega) x1 x2 x3 x4 x5 x6 x7 x8 x9 x10 x11 x12 x13 x14 x15 x16 x17 x18 x19 t19 (w2_src (sp := sp) rfl hc (hx.keep hw)).1 (by omega) mm hm hmm hp hy b18.1 b18.2 hv)
    exact h
  refine law_ok 4 0 0 x17 x18 x19 [x1, x2, x3, x4, x5, x6, x7, x8, x9, x10, x11, x12, x13, x14, x15, x16] 20 A _ c _ sp W hl (by simp) rfl hx rfl (by decide) (by decide) (by decide) hst (fun S w2 hw2 => (isStr_argon 0 0 x17 x18 x19 S w2 b17.1 b17.2 b18.1 b18.2 b19.1 b19.2).mono fun e w3 ⟨hcw, he⟩ => ?_)
  rcases he with he | ⟨he, hp, hy, hr, m, hm3, hm11, hmr, hv⟩
  · exact ⟨false, he, hcw, fun h => by cases h⟩
  · exact ⟨true, he, hcw, fun _ => hread hp hy (by omega) (by
      have hle : m ≤ mm := by omega
      have : (2 : Nat) ^ m ≤ 2 ^ mm := Nat.pow_le_pow_right (by decide) hle
      omega)⟩
theorem fnReadS2k_small (A : Option Addr) (L c : Nat) (xs : List Int) (sp : Int) (W : World) (a0 a1 : Addr) (hS : Sent W a0 a1) (hn : L = xs.length) (hc : L ≤ c) (hx : Rb W A xs) (hb : Byt xs) (hl : L ≤ 1048576) : Calls Tryd.prog 4 #[.slice A L c, .int .i64 sp] W (Yes W) := by
  by_cases h0 : L = 0
  · exact case_empty A L c xs sp W a0 a1 hS hn hc hx hb hl h0
  · have hp : 0 < L := by omega
    by_cases k0 : rd xs 0 = 0
    · by_cases h : L < 2
      · exact case_short0 A L c xs sp W a0 a1 hS hn hc hx hb hl hp k0 h
      · exact case_0 A L c xs sp W a0 a1 hS hn hc hx hb hl k0 (by omega)
    · by_cases k1 : rd xs 0 = 1
      · by_cases h : L < 10
        · exact case_short1 A L c xs sp W a0 a1 hS hn hc hx hb hl hp k1 h
        · exact case_1 A L c xs sp W a0 a1 hS hn hc hx hb hl k1 (by omega)
      · by_cases k3 : rd xs 0 = 3
        · by_cases h : L < 11
          · exact case_short3 A L c xs sp W a0 a1 hS hn hc hx hb hl hp k3 h
          · exact case_3 A L c xs sp W a0 a1 hS hn hc hx hb hl k3 (by omega)
        · by_cases k4 : rd xs 0 = 4
          · by_cases h : L < 20
            · exact case_short4 A L c xs sp W a0 a1 hS hn hc hx hb hl hp k4 h
            · exact case_4 A L c xs sp W a0 a1 hS hn hc hx hb hl k4 (by omega)
          · by_cases k5 : rd xs 0 = 101
            · exact case_gnu A L c xs sp W a0 a1 hS hn hc hx hb hl hp k5
            · exact case_other A L c xs sp W a0 a1 hS hn hc hx hb hl hp k0 k1 k3 k4 k5
set_option maxRecDepth 100000 in
set_option maxHeartbeats 1000000 in
theorem fnReadS2k_walk (A : Option Addr) (c : Nat) (xs : List Int) (sp : Int) (W : World) (a0 a1 : Addr) (hS : Sent W a0 a1) (hx : Rk .u8 W A xs) (hc : xs.length ≤ c) (hb : Byt xs) (hl : xs.length ≤ 140737488351232) (wf : (Lit.int .i64 sp).wf = true) :
    Calls Tryd.prog 4 #[.slice A xs.length c, .int .i64 sp] W fun e w' => e = .returned (.bool true) ∧ Below W.heap.size W w' := by
  by_cases h1 : xs.length ≤ 1048576
  · exact fnReadS2k_small A xs.length c xs sp W a0 a1 hS rfl hc hx hb h1
  · obtain ⟨n, hn⟩ : ∃ n, n = xs.length := ⟨_, rfl⟩
    rw [← hn] at h1 hl
    rw [← hn]
    have h2 : (1048576 : Int) < (n : Int) := by omega
    clear hx hb hS hn hc wf
    by_cases h3 : n ≤ 2147483647
    · go_enter Tryd.func4, Tryd.ntmps4
      go_wp2_with fail
      go_ret
      exact ⟨rfl, Below.refl _ _⟩
    · have h4 : (2147483647 : Int) < (n : Int) := by omega
      go_enter Tryd.func4, Tryd.ntmps4
      go_wp2_with fail
      go_ret
      exact ⟨rfl, Below.refl _ _⟩
end Go.Proofs.YthambncffcphkaaDoor
