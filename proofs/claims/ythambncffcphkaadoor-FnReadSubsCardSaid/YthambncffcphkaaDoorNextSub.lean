/- The contract of packet.nextSubpacket. -/
import Derived.Test.YthambncffcphkaaDoorBase
import Derived.Test.YthambncffcphkaaDoorSubP
import Derived.Deep.DeepCutAuto
import Derived.Deep.CutBlock
import Derived.ScopeJumps
import Derived.WalkMore
import Derived.Outline
set_option linter.unusedVariables false
set_option linter.unusedSimpArgs false
namespace Go.Proofs.YthambncffcphkaaDoor
open Go.RowKit V
def noSub : ByteArray := { data := #[115, 117, 98, 112, 97, 99, 107, 101, 116, 32, 116, 114, 117, 110, 99, 97, 116, 101, 100] }
/-- What nextSubpacket answers: the struct lies in a block of its own, its bytes where the area's lie. -/
def NextOf (F : Nat → Prop) (w : World) (xs : List Int) (e : Ending) (w' : World) : Prop :=
  Chg NoB w w' ∧
  match sub1 xs with
  | none => ∃ (h : Int) (p : Option Addr), e = .returned (.tuple #[.int .i64 h, .pointer p, .iface 71 (.string noSub)])
  | some (o, n) => ∃ (g : Nat) (s : Sv), e = .returned (.tuple #[.int .i64 (o + 1 : Nat), .pointer (some ⟨g, 0, none⟩), .nilIface]) ∧ w.heap.size ≤ g ∧ Blk w' g 70 (s.cells .u8) ∧ s.is F w' (itemOf xs o n)
theorem nextOf_none {F : Nat → Prop} {w w' : World} {xs : List Int} {h : Int} {p : Option Addr} (h1 : sub1 xs = none) (hc : Chg NoB w w') : NextOf F w xs (.returned (.tuple #[.int .i64 h, .pointer p, .iface 71 (.string noSub)])) w' :=
  ⟨hc, by rw [h1]; exact ⟨h, p, rfl⟩⟩
/-- A goto ahead to label l, behind which 'rest' stands: that runs once, without a goto. -/
def Fwd (P : Program) (l : Nat) (rest : Code) (Q : Exit → Act → World → Prop) : Exit → Act → World → Prop := Exit.jump l (fun a w => rest.wp P (Exit.noGoto Q) a w) Q
theorem wp_scope_fwd {P : Program} {a : Act} {w : World} {Q : Exit → Act → World → Prop} {c rest : Code} (l : Nat) (hf : findLabel c l = some rest)
    (first : c.wp P (Fwd P l rest Q) a w) : (Code.scope c).wp P Q a w :=
  wp_scope_jumps l _ (fun _ _ => 0) hf first (fun a w h => wp_mono h (fun e a w hq => by cases e <;> first | exact hq | exact hq.elim))
theorem fwd_goto {P : Program} {a : Act} {w : World} {Q : Exit → Act → World → Prop} {l : Nat} {rest : Code} (h : rest.wp P (Exit.noGoto Q) a w) : Fwd P l rest Q (.goto l) a w := ⟨rfl, h⟩
theorem fwd_ret {P : Program} {a : Act} {w : World} {Q : Exit → Act → World → Prop} {l : Nat} {rest : Code} (h : Q .ret a w) : Fwd P l rest Q .ret a w := h
theorem noGoto_ret {a : Act} {w : World} {Q : Exit → Act → World → Prop} (h : Q .ret a w) : Exit.noGoto Q .ret a w := h
theorem u32_join (i : Nat) {x y : Int} (hx0 : 0 ≤ x) (hx : x < 4294967296) (hm : x % (2 ^ i : Nat) = 0) (hy0 : 0 ≤ y) (hy : y < (2 ^ i : Nat)) (hy2 : y < 4294967296) : bits .or .u32 x y = x + y := by
  obtain ⟨a, rfl⟩ := Int.eq_ofNat_of_zero_le hx0
  obtain ⟨b, rfl⟩ := Int.eq_ofNat_of_zero_le hy0
  rw [u32_or_nat a b (by omega) (by omega), nat_join i a b (by omega) (by omega)]
  omega
theorem or4 {f1 f2 f3 f4 : Int} (b10 : 0 ≤ f1) (b11 : f1 ≤ 255) (b20 : 0 ≤ f2) (b21 : f2 ≤ 255) (b30 : 0 ≤ f3) (b31 : f3 ≤ 255) (b40 : 0 ≤ f4) (b41 : f4 ≤ 255) :
    bits .or .u32 (bits .or .u32 (bits .or .u32 (f1 * 16777216) (f2 * 65536)) (f3 * 256)) f4 = ((f1 * 256 + f2) * 256 + f3) * 256 + f4 := by
  rw [u32_join 24 (x := f1 * 16777216) (y := f2 * 65536) (by omega) (by omega) (by omega) (by omega) (by omega) (by omega)]
  rw [u32_join 16 (x := f1 * 16777216 + f2 * 65536) (y := f3 * 256) (by omega) (by omega) (by omega) (by omega) (by omega) (by omega)]
  rw [u32_join 8 (x := f1 * 16777216 + f2 * 65536 + f3 * 256) (y := f4) (by omega) (by omega) (by omega) (by omega) (by omega) (by omega)]
  omega
theorem numL4 : ∀ (xs : List Int), 5 ≤ xs.length → numL (xs.tail.take 4) = ((rd xs 1 * 256 + rd xs 2) * 256 + rd xs 3) * 256 + rd xs 4
  | x0 :: x1 :: x2 :: x3 :: x4 :: r, _ => by simp [numL, rd]
  | [], h => by simp at h
  | [_], h => by simp at h
  | [_, _], h => by simp at h
  | [_, _, _], h => by simp at h
  | [_, _, _, _], h => by simp at h
set_option maxRecDepth 100000 in
set_option maxHeartbeats 2000000 in
theorem next_empty (F : Nat → Prop) (A : Option Addr) (c : Nat) (w : World) : Calls Tryd.prog 21 #[.slice A 0 c] w (NextOf F w []) := by
  go_enter Tryd.func21, Tryd.ntmps21
  go_wp2_with fail
  refine wp_scope_fwd 0 rfl ?_
  go_wp2_with fail
  go_step3
  refine fwd_goto ?_
  go_wp2_with fail
  refine noGoto_ret ?_
  go_ret3
  exact nextOf_none rfl (Chg.refl _ _)
set_option maxRecDepth 100000 in
set_option maxHeartbeats 8000000 in
theorem next_head (F : Nat → Prop) (A : Option Addr) (L c o n : Nat) (xs : List Int) (w : World) (hn : L = xs.length) (hnc : L ≤ c) (hx : Rf F w A xs) (hb : Byt xs) (hl : L ≤ 1048576) (hsub : subHead xs = some (o, n)) (hoL : o < L) :
    Calls Tryd.prog 21 #[.slice A L c] w (NextOf F w xs) := by
  have hpos := subHead_pos hsub
  obtain ⟨a0, hA, _⟩ := hx.1.at_ 0 (by omega) (by omega)
  subst hA
  have hrd0 := hb.rd 0
  have hrd1 := hb.rd 1
  have HF : As ((rd xs 0 < 192 ∧ o = 1 ∧ n = (rd xs 0).toNat) ∨ (192 ≤ rd xs 0 ∧ rd xs 0 < 255 ∧ o = 2 ∧ n = ((rd xs 0 - 192) * 256 + rd xs 1 + 192).toNat) ∨ (rd xs 0 = 255 ∧ o = 5 ∧ n = (numL (xs.tail.take 4)).toNat)) := ⟨by
    unfold subHead at hsub
    rw [if_neg (by omega)] at hsub
    by_cases h1 : rd xs 0 < 192
    · rw [if_pos h1] at hsub; injection hsub with h; injection h with e1 e2; exact .inl ⟨h1, e1.symm, e2.symm⟩
    · rw [if_neg h1] at hsub
      by_cases h2 : rd xs 0 < 255
      · rw [if_pos h2] at hsub
        by_cases h3 : xs.length < 2
        · rw [if_pos h3] at hsub; cases hsub
        · rw [if_neg h3] at hsub; injection hsub with h; injection h with e1 e2; exact .inr (.inl ⟨by omega, h2, e1.symm, e2.symm⟩)
      · rw [if_neg h2] at hsub
        by_cases h3 : xs.length < 5
        · rw [if_pos h3] at hsub; cases hsub
        · rw [if_neg h3] at hsub; injection hsub with h; injection h with e1 e2; exact .inr (.inr ⟨by omega, e1.symm, e2.symm⟩)⟩
  have hsh := As.mk hsub
  have HX := As.mk hx
  have HN := As.mk hn
  have HBY := As.mk hb
  have HCA : As (∀ w', Chg NoB w w' → ∀ i : Nat, i < L → w'.cell? (a0.add i) = some (.int .u8 (rd xs i))) := ⟨fun w' hc i hi => by
    obtain ⟨ad, e, hc⟩ := (hx.1.keep hc).at_ (i : Int) (by omega) (by omega)
    injection e with e
    subst e
    simpa using hc⟩
  have hcA : ∀ o, (w.alloc o).cell? a0 = some (.int .u8 (rd xs 0)) := fun o => by
    have := HCA.out (w.alloc o) ((Chg.refl _ _).alloc o) 0 (by omega)
    simpa [Addr.add] using this
  have r01 := hrd0.1
  have r02 := hrd0.2
  have r11 := hrd1.1
  have r12 := hrd1.2
  have hLp : (0 : Int) < (L : Int) := by omega
  have hL1 : ¬ ((L : Int) < 1) := by omega
  have ho1 := hpos.1
  have ho5 := hpos.2.1
  have haL : a0.add o = ⟨a0.block, a0.off + o, none⟩ := by unfold Addr.add; rw [if_neg (by omega)]
  obtain ⟨m, hm⟩ : ∃ m, m = L - o := ⟨_, rfl⟩
  have hmp : 0 < m := by omega
  have hml : m ≤ 1048576 := by omega
  have HM := As.mk hm
  have HNB : As ((n : Int) ≤ 4294967295) := ⟨by
    rcases HF.out with h | h | h
    · omega
    · omega
    · have h4 := numL4 xs (by omega)
      have b1 := hb.rd 1
      have b2 := hb.rd 2
      have b3 := hb.rd 3
      have b4 := hb.rd 4
      omega⟩
  have hnb := HNB.out
  have HR' : As (∀ w', Chg NoB w w' → Rf F w' (some ⟨a0.block, a0.off + o, none⟩) (xs.drop o)) := ⟨fun w' h => by
    have := (hx.keep h).drop_if o c (by omega)
    rw [if_neg (by omega)] at this
    simpa [haL] using this⟩
  have HR1 : As (∀ w', Chg NoB w w' → Rf F w' (some a0) (xs.take o)) := ⟨fun w' h => (hx.keep h).take_ o⟩
  clear hx hn hb hsub hpos hrd0 hrd1 haL hm
  go_enter Tryd.func21, Tryd.ntmps21
  go_wp2_with fail
  refine wp_scope_fwd 0 rfl ?_
  go_upto_block 0 with fail
  have C1 : As (Chg NoB w (w.alloc (.cells #[.int .u8 0, .slice none 0 0, .slice none 0 0] 70))) := ⟨(Chg.refl NoB w).alloc _⟩
  have BG : As (Blk (w.alloc (.cells #[.int .u8 0, .slice none 0 0, .slice none 0 0] 70)) w.heap.size 70 [.int .u8 0, .slice none 0 0, .slice none 0 0]) := ⟨Blk.new w _ [.int .u8 0, .slice none 0 0, .slice none 0 0]⟩
  go_cut [0, 2, 5, 6] (fun s0 s2 s5 s6 wx => s0 = .slice (some ⟨a0.block, a0.off + o, none⟩) m (c - o) ∧ s2 = .int .i64 (o + 1 : Nat) ∧ s5 = .int .u32 (n : Int) ∧ s6 = .slice (some a0) o c ∧ As (Chg NoB w wx) ∧ As (Blk wx w.heap.size 70 [.int .u8 0, .slice none 0 0, .slice none 0 0]))
  case first =>
    rcases HF.out with ⟨h1, rfl, hN⟩ | ⟨h1, h2, rfl, hN⟩ | ⟨h1, rfl, hN⟩
    · have hN2 : ((n : Nat) : Int) = rd xs 0 := by omega
      have HN2 := As.mk hN2
      have hL2 : ¬ ((L : Int) < 2) := by omega
      clear hN hN2
      generalize rd xs 0 = f at *
      go_wp2_with fail
      go_meet
      case rel => exact ⟨by rw [HM.out], rfl, by rw [HN2.out], rfl, C1, BG⟩
    · have hN2 : ((n : Nat) : Int) = (rd xs 0 - 192) * 256 + rd xs 1 + 192 := by omega
      have HN2 := As.mk hN2
      have hL2 : ¬ ((L : Int) < 3) := by omega
      have hc1 := HCA.out _ C1.out 1 (by omega)
      simp [Addr.add] at hc1
      have hlt : (1 : Int) < (L : Int) := by omega
      clear hN hN2
      generalize rd xs 0 = f at *
      generalize rd xs 1 = f1 at *
      go_wp2_with fail
      go_quiet (fail)
      go_wp2_with fail
      go_meet
      case rel => exact ⟨by rw [HM.out], rfl, by rw [HN2.out], rfl, ⟨C1.out.drewN _⟩, ⟨BG.out.drewN _⟩⟩
    · have hN2 : ((n : Nat) : Int) = ((rd xs 1 * 256 + rd xs 2) * 256 + rd xs 3) * 256 + rd xs 4 := by
        have h4 := numL4 xs (by have := HN.out; omega)
        have b1 := HBY.out.rd 1
        have b2 := HBY.out.rd 2
        have b3 := HBY.out.rd 3
        have b4 := HBY.out.rd 4
        omega
      have HN2 := As.mk hN2
      have hL2 : ¬ ((L : Int) < 6) := by omega
      have hc1 := HCA.out _ C1.out 1 (by omega)
      have hc2 := HCA.out _ C1.out 2 (by omega)
      have hc3 := HCA.out _ C1.out 3 (by omega)
      have hc4 := HCA.out _ C1.out 4 (by omega)
      simp [Addr.add] at hc1 hc2 hc3 hc4
      have hl1 : (1 : Int) < (L : Int) := by omega
      have hl2 : (2 : Int) < (L : Int) := by omega
      have hl3 : (3 : Int) < (L : Int) := by omega
      have hl4 : (4 : Int) < (L : Int) := by omega
      have b1 := HBY.out.rd 1
      have b2 := HBY.out.rd 2
      have b3 := HBY.out.rd 3
      have b4 := HBY.out.rd 4
      have b10 := b1.1
      have b11 := b1.2
      have b20 := b2.1
      have b21 := b2.2
      have b30 := b3.1
      have b31 := b3.2
      have b40 := b4.1
      have b41 := b4.2
      clear hN hN2 b1 b2 b3 b4
      simp only [h1] at hcA
      clear h1 r01 r02
      generalize rd xs 1 = f1 at *
      generalize rd xs 2 = f2 at *
      generalize rd xs 3 = f3 at *
      generalize rd xs 4 = f4 at *
      go_wp2_with fail
      go_quiet (fail)
      go_wp2_with fail
      go_meet
      case rel =>
        exact ⟨by rw [HM.out], rfl, by rw [HN2.out, or4 b10 b11 b20 b21 b30 b31 b40 b41], rfl, ⟨C1.out.drewN _⟩, ⟨BG.out.drewN _⟩⟩
  case rest =>
    obtain ⟨rfl, rfl, rfl, rfl, HC, HBk⟩ := hcut
    have bg := HBk.out
    have x0 := bg.cell 0
    have x1 := bg.cell 1
    have x2 := bg.cell 2
    have y0 := bg.frozen 0
    have y1 := bg.frozen 1
    have y2 := bg.frozen 2
    simp only [List.getElem?_cons_zero, List.getElem?_cons_succ] at x0 x1 x2
    clear bg hcA
    by_cases hz : n = 0
    · have HE : As (sub1 xs = none) := ⟨by unfold sub1; rw [hsh.out, hz]; rfl⟩
      subst hz
      go_wp2_with fail
      go_step3
      refine fwd_goto ?_
      go_wp2_with fail
      refine noGoto_ret ?_
      go_ret3
      exact nextOf_none HE.out HC.out
    · have hfz : ((n : Int) == 0) = false := by simp; omega
      by_cases hs : m < n
      · have HE : As (sub1 xs = none) := ⟨by unfold sub1; rw [hsh.out]; have := HN.out; have := HM.out; simp; omega⟩
        have hlt : (m : Int) < (n : Int) := by omega
        go_wp2_with fail
        go_step3
        refine fwd_goto ?_
        go_wp2_with fail
        refine noGoto_ret ?_
        go_ret3
        exact nextOf_none HE.out HC.out
      · have hnlt : ¬ (m : Int) < (n : Int) := by omega
        have HE : As (sub1 xs = some (o, n)) := ⟨by unfold sub1; rw [hsh.out]; have := HN.out; have := HM.out; simp; omega⟩
        obtain ⟨cq, hcq⟩ : ∃ q, q = rd xs (o : Int) := ⟨_, rfl⟩
        have hq0 := HCA.out wc HC.out o (by have := HM.out; omega)
        rw [← hcq, show a0.add o = ⟨a0.block, a0.off + o, none⟩ from by unfold Addr.add; rw [if_neg (by omega)]] at hq0
        have HCQ := As.mk hcq
        have hmp2 : (0 : Int) < (m : Int) := by omega
        obtain ⟨A2, hcut2, hA2⟩ := cut_mid_f (P := Tryd.prog) 22 5 Tryd.underlying22 size8 (some ⟨a0.block, a0.off + o, none⟩) m (c - o) 1 (n : Int) .i64 .u32 (n - 1) (c - o - 1) (by omega) (by omega) (by have := HM.out; omega) (by have := HM.out; omega)
        have HA2 : As (∀ w', Chg NoB w w' → Rf F w' A2 ((xs.drop (o + 1)).take (n - 1))) := ⟨fun w' h => by
          have := hA2 F w' (xs.drop o) (by rw [List.length_drop]; have := HM.out; have := HN.out; omega) (by rw [List.length_drop]; have := HN.out; omega) (HR'.out w' h)
          rwa [List.drop_drop] at this⟩
        clear hcq hA2 hs hz
        go_wp2_with fail
        refine fwd_ret ?_
        go_ret3
        have hfin := Chg.setCell (Chg.setCell (Chg.setCell (Chg.refl (fun b => b = w.heap.size) wc) (p := ⟨w.heap.size, 0, none⟩) (.int .u8 cq) (fun _ => rfl)) (p := ⟨w.heap.size, 1, none⟩) (.slice (some a0) o c) (fun _ => rfl)) (p := ⟨w.heap.size, 2, none⟩) (.slice A2 (n - 1) (c - o - 1)) (fun _ => rfl)
        have hcf := HC.out.trans (S' := fun b => b = w.heap.size) hfin (fun i hi e => by omega)
        refine ⟨hcf, ?_⟩
        rw [HE.out]
        refine ⟨w.heap.size, ⟨cq, some a0, o, c, A2, n - 1, c - o - 1⟩, rfl, Nat.le_refl _, ((HBk.out.set_ 0 _).set_ 1 _).set_ 2 _, ⟨HCQ.out, ?_, ?_, HR1.out _ hcf, HA2.out _ hcf⟩⟩
        · show o = (xs.take o).length
          rw [List.length_take]; have := HN.out; have := HM.out; omega
        · show n - 1 = ((xs.drop (o + 1)).take (n - 1)).length
          rw [List.length_take, List.length_drop]; have := HN.out; have := HM.out; omega
end Go.Proofs.YthambncffcphkaaDoor
