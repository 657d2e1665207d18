/- The contracts of spec.ReadMPI and laws.isField. -/
import Derived.Test.YtllcfihbepmphaaDoorNum
import Derived.Test.YtllcfihbepmphaaDoorV3
import Derived.Test.YtllcfihbepmphaaDoorMpi
set_option linter.unusedVariables false
set_option linter.unusedSimpArgs false
namespace Go.Proofs.YtllcfihbepmphaaDoor
open Go.RowKit V
theorem numL2 (xs : List Int) (h : 2 ≤ xs.length) : numL (xs.take 2) = rd xs 0 * 256 + rd xs 1 := by
  match xs, h with
  | x :: y :: l, _ => simp [numL, rd]
/-- What ReadMPI answers. -/
def SpecMpi (w : World) (xs : List Int) (e : Ending) (w' : World) : Prop :=
  Chg NoB w w' ∧
  ((∃ (b : Nat) (v : Value), (b : Int) = rd xs 0 * 256 + rd xs 1 ∧ 2 + nBytes b ≤ xs.length ∧ e = .returned (.tuple #[.int .i64 b, v, .int .i64 (2 + nBytes b : Nat), .int .i64 0]) ∧ Ow w' w.heap.size 5 .u8 v ((xs.drop 2).take (nBytes b))) ∨
   ((xs.length < 2 ∨ ∃ b : Nat, (b : Int) = rd xs 0 * 256 + rd xs 1 ∧ xs.length < 2 + nBytes b) ∧ e = .returned (.tuple #[.int .i64 0, .slice none 0 0, .int .i64 0, .int .i64 1])))
set_option maxRecDepth 100000 in
set_option maxHeartbeats 2000000 in
theorem specMpi_any (A : Option Addr) (n c : Nat) (xs : List Int) (w : World) (hn : n = xs.length) (hnc : n ≤ c) (hx : Rb w A xs) (hb : Byt xs) (hl : n ≤ 1048576) :
    Calls Tryd.prog 21 #[.slice A n c] w (SpecMpi w xs) := by
  have HX := As.mk hx
  have HN := As.mk hn
  by_cases h2 : n < 2
  · have HE : As (SpecMpi w xs (.returned (.tuple #[.int .i64 0, .slice none 0 0, .int .i64 0, .int .i64 1])) w) := ⟨Chg.refl _ _, Or.inr ⟨Or.inl (by omega), rfl⟩⟩
    clear hx hb hn
    go_enter Tryd.func21, Tryd.ntmps21
    go_wp2_with fail
    (try simp only [Exit.inBlock, Exit.then])
    refine bodyPost_ret (results_tmp4 rfl _ _ _) rfl ?_
    exact HE.out
  · have hcut := cut_to (P := Tryd.prog) 22 5 Tryd.underlying22 size8 A n c 2 .i64 2 rfl (by omega)
    have b0 := hb.rd 0
    have b1 := hb.rd 1
    obtain ⟨B, hB⟩ := Int.eq_ofNat_of_zero_le (show 0 ≤ rd xs 0 * 256 + rd xs 1 by omega)
    have hBl : B ≤ 65535 := by omega
    have hN := number_any A 2 c (xs.take 2) w (by rw [List.length_take]; omega) (hx.take_ 2) (hb.take 2) (by omega)
    rw [numL2 xs (by omega), hB] at hN
    have HNU := As.mk hN
    obtain ⟨nb, hnb⟩ : ∃ nb, nb = nBytes B := ⟨_, rfl⟩
    have hnd : ((B : Int) + 7) / 8 = (nb : Int) := by rw [hnb]; unfold nBytes; omega
    have hnbl : nb ≤ 8192 := by unfold nBytes at hnb; omega
    obtain ⟨t, ht⟩ : ∃ t, t = 2 + nb := ⟨_, rfl⟩
    have hwt : 2 + (nb : Int) = (t : Int) := by omega
    have htl : t ≤ 8194 := by omega
    have HBV : As ((B : Int) = rd xs 0 * 256 + rd xs 1) := ⟨hB.symm⟩
    have HNB := As.mk hnb
    have HT := As.mk ht
    by_cases hlt : n < t
    · have HE : As (SpecMpi w xs (.returned (.tuple #[.int .i64 0, .slice none 0 0, .int .i64 0, .int .i64 1])) w) := ⟨Chg.refl _ _, Or.inr ⟨Or.inr ⟨B, HBV.out, by omega⟩, rfl⟩⟩
      clear hx hb hn hN hB b0 b1 hnb ht
      go_enter Tryd.func21, Tryd.ntmps21
      go_wp2_with fail
      refine HNU.out.mono ?_
      rintro e w1 ⟨rfl, rfl⟩
      go_wp2_with fail
      (try simp only [Exit.inBlock, Exit.then])
      refine bodyPost_ret (results_tmp4 rfl _ _ _) rfl ?_
      exact HE.out
    · obtain ⟨A2, hcut2, _, hA2⟩ := cut_mid (P := Tryd.prog) 22 5 Tryd.underlying22 size8 A n c 2 t .i64 .i64 nb (c - 2) (by omega) (by omega) (by omega) (by omega)
      have hA3 := fun w0 (h0 : Rb w0 A xs) => hA2 w0 .u8 xs (by omega) (by omega) h0
      rw [show (2 : Int).toNat = 2 from rfl] at hA3
      have HA3 := As.mk hA3
      have HL : As (nb = ((xs.drop 2).take nb).length) := ⟨by rw [List.length_take, List.length_drop]; omega⟩
      have HLE : As (2 + nBytes B ≤ xs.length) := ⟨by omega⟩
      have htn : (t : Int) ≤ (n : Int) := by omega
      clear hx hb hn hN hB b0 b1 hnb ht hA2 hA3
      go_enter Tryd.func21, Tryd.ntmps21
      go_wp2_with fail
      refine HNU.out.mono ?_
      rintro e w1 ⟨rfl, rfl⟩
      go_wp2_with ((with_reducible refine gate (N := 25) rfl ?_); refine wpList_append_e rfl _ _ 22 rfl 5 .u8 1 Tryd.underlying22 info8 (by decide) _ w1.heap.size ((xs.drop 2).take nb) A2 nb (c - 2) rfl rfl HL.out (HA3.out _ (HX.out.alloc _)) ?hb (by have := HL.out; omega) ?_; (case hb => simp); intro v2 w2 ho2 hc2)
      (try simp only [Exit.inBlock, Exit.then])
      refine bodyPost_ret (results_tmp4 rfl _ _ _) rfl ?_
      refine ⟨((Chg.refl NoB w1).alloc _).trans hc2 (fun _ _ e => e), Or.inl ⟨B, v2, HBV.out, HLE.out, ?_, ?_⟩⟩
      · rw [← HNB.out, ← HT.out]; rfl
      · rw [← HNB.out]; exact ho2
set_option maxRecDepth 100000 in
set_option maxHeartbeats 2000000 in
theorem isField_yes (A1 : Option Addr) (c1 : Nat) (A2 : Option Addr) (c2 : Nat) (A3 : Option Addr) (c3 : Nat) (A4 : Option Addr) (c4 : Nat) (n m : Nat) (bits : Int) (ys es : List Int) (w : World) (hn : n = ys.length) (hm : m = es.length)
    (h1 : Rb w A1 ys) (h2 : Rb w A2 es) (h3 : Rb w A3 ys) (h4 : Rb w A4 es) :
    Calls Tryd.prog 24 #[.agg #[.slice A1 n c1, .int .i64 bits, .slice A2 m c2, .int .i64 m], .slice A3 n c3, .int .i64 bits, .slice A4 m c4] w fun e w' => e = .returned (.bool true) ∧ Chg NoB w w' := by
  have HN := As.mk hn
  have HM := As.mk hm
  have H1 := As.mk h1
  have H2 := As.mk h2
  have H3 := As.mk h3
  have H4 := As.mk h4
  clear hn hm h1 h2 h3 h4
  go_enter Tryd.func24, Tryd.ntmps24
  go_wp2_with fail
  refine (same_yes A1 n c1 ys A3 n c3 _ HN.out HN.out (H1.out.alloc _) (H3.out.alloc _)).mono ?_
  rintro e w1 ⟨rfl, k1, rfl⟩
  go_wp2_with fail
  refine (same_yes A2 m c2 es A4 m c4 _ HM.out HM.out ((H2.out.alloc _).drewN k1) ((H4.out.alloc _).drewN k1)).mono ?_
  rintro e w2 ⟨rfl, k2, rfl⟩
  go_wp2_with fail
  go_ret
  exact ⟨rfl, ((Chg.refl NoB w).alloc _).drewN (k1 + k2)⟩
end Go.Proofs.YtllcfihbepmphaaDoor
