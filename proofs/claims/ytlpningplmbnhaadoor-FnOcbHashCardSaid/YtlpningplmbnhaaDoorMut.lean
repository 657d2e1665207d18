/- The contract of byteutil.XorBytesMut: the exclusive or into a part of a row of the call's own. -/
import Derived.Test.YtlpningplmbnhaaDoorBase
import Derived.Test.YtlpningplmbnhaaDoorV3
import Derived.Test.YtlpningplmbnhaaDoorPure
import Derived.Deep.DeepCutAuto
set_option linter.unusedVariables false
set_option linter.unusedSimpArgs false
namespace Go.Proofs.YtlpningplmbnhaaDoor
open Go.RowKit V
/-- y into x from a place on. -/
def xorM (zs : List Int) (off : Nat) (ys : List Int) (k : Nat) : List Int := tab zs.length fun j => if off ≤ j ∧ j < off + k then Go.bits .xor .u8 (zs.getD j 0) (ys.getD (j - off) 0) else zs.getD j 0
theorem xorM_length (zs : List Int) (off : Nat) (ys : List Int) (k : Nat) : (xorM zs off ys k).length = zs.length := tab_length _ _
theorem xorM_byt {zs ys : List Int} (h : Byt zs) (h' : Byt ys) (off k : Nat) : Byt (xorM zs off ys k) := tab_byt fun i _ => by
  split
  · exact bx_range _ _ (h.getD i) (h'.getD _)
  · exact h.getD i
theorem xorM_zero (zs : List Int) (off : Nat) (ys : List Int) : xorM zs off ys 0 = zs := by
  conv => rhs; rw [eq_tab zs]
  exact tab_congr fun j _ => if_neg (by omega)
theorem xorM_step (zs : List Int) (off : Nat) (ys : List Int) (k : Nat) : (xorM zs off ys k).set (off + k) (Go.bits .xor .u8 (zs.getD (off + k) 0) (ys.getD k 0)) = xorM zs off ys (k + 1) := by
  unfold xorM
  rw [tab_set]
  refine tab_congr fun j hj => ?_
  by_cases e : j = off + k
  · subst e; rw [if_pos rfl, if_pos (by omega), show off + k - off = k by omega]
  · rw [if_neg e]
    by_cases h3 : off ≤ j ∧ j < off + k
    · rw [if_pos h3, if_pos (by omega)]
    · rw [if_neg h3, if_neg (by omega)]
theorem xorM_rd {zs : List Int} {off : Nat} {ys : List Int} {k : Nat} (h : off + k < zs.length) : rd (xorM zs off ys k) ((off + k : Nat) : Int) = zs.getD (off + k) 0 := by
  rw [rd_nat]
  unfold xorM
  rw [tab_getD h, if_neg (by omega)]
/-- A whole row of the same length. -/
theorem xorM_all {zs ys : List Int} (h : ys.length = zs.length) : xorM zs 0 ys ys.length = xorL zs ys := tab_congr fun j hj => by
  rw [if_pos (by omega), if_pos (by omega)]; rfl
/-- A window of m places. -/
theorem xorM_window {zs ys : List Int} {off m : Nat} (hm : ys.length = m) (h : off + m ≤ zs.length) : ((xorM zs off ys m).drop off).take m = xorL ((zs.drop off).take m) ys := by
  have hl : ((zs.drop off).take m).length = m := by rw [List.length_take, List.length_drop]; omega
  unfold xorL
  rw [hl]
  refine tab_ext (by rw [List.length_take, List.length_drop, xorM_length]; omega) fun i hi => ?_
  rw [List.getD_eq_getElem?_getD, List.getElem?_take, if_pos hi, List.getElem?_drop]
  have : (xorM zs off ys m)[off + i]? = some (Go.bits .xor .u8 (zs.getD (off + i) 0) (ys.getD i 0)) := by
    unfold xorM
    rw [tab_get (by omega), if_pos (by omega), show off + i - off = i by omega]
  rw [this, if_pos (by omega)]
  have e : ((zs.drop off).take m).getD i 0 = zs.getD (off + i) 0 := by
    rw [List.getD_eq_getElem?_getD, List.getElem?_take, if_pos hi, List.getElem?_drop, List.getD_eq_getElem?_getD]
  rw [e]
  rfl
/-- What stands behind the window stays. -/
theorem xorM_behind {zs ys : List Int} {off m q : Nat} (h : off + m ≤ q) : (xorM zs off ys m).drop q = zs.drop q := by
  apply List.ext_getElem?
  intro i
  rw [List.getElem?_drop, List.getElem?_drop]
  by_cases hi : q + i < zs.length
  · unfold xorM
    rw [tab_get hi, if_neg (by omega), List.getD_eq_getElem?_getD, List.getElem?_eq_getElem hi]
    rfl
  · rw [List.getElem?_eq_none (by rw [xorM_length]; omega), List.getElem?_eq_none (by omega)]
/-- What XorBytesMut leaves. -/
def MutTo (w : World) (base g N cap : Nat) (zs : List Int) (e : Ending) (w' : World) : Prop :=
  e = .returned (.tuple #[]) ∧ Own w' base 5 .u8 (.slice (some ⟨g, 0, none⟩) N cap) zs ∧ Chg (fun b => b = g) w w'
set_option maxRecDepth 100000 in
set_option maxHeartbeats 1000000 in
theorem mut_any {w : World} {base g N cap off dn dc c m : Nat} {zs ys : List Int} {YA : Option Addr} (HO : Own w base 5 .u8 (.slice (some ⟨g, 0, none⟩) N cap) zs) (bz : Byt zs)
    (ry : Rb w YA ys) (bys : Byt ys) (hm : m = ys.length) (hoff : off + m ≤ N) (hdn : m ≤ dn) (hdc : dn ≤ dc) (hY : ∀ ad, YA = some ad → ad.block ≠ g) (hN : N ≤ 281474976710656) :
    Calls Tryd.prog 30 #[.slice (some ⟨g, off, none⟩) dn dc, .slice YA m c] w (MutTo w base g N cap (xorM zs off ys m)) := by
  have hNz : N = zs.length := own_len HO
  subst hNz
  have O0 : As (Own w base 5 .u8 (.slice (some ⟨g, 0, none⟩) zs.length cap) (xorM zs off ys 0)) := ⟨by rw [xorM_zero]; exact HO⟩
  have RY := As.mk ry
  have BY := As.mk (And.intro bz bys)
  have HM := As.mk hm
  have HY := As.mk hY
  have HOFF := As.mk hoff
  have HNN := As.mk hN
  have hm3 : m ≤ 281474976710656 := by omega
  clear HO ry bz bys hm hY hoff hN
  go_enter Tryd.func30, Tryd.ntmps30
  go_wp2
  go_loopw [4] (fun i wr => ∃ k : Nat, k ≤ m ∧ i = .int .i64 k ∧ As (Own wr base 5 .u8 (.slice (some ⟨g, 0, none⟩) zs.length cap) (xorM zs off ys k)) ∧ As (Chg (fun b => b = g) w wr)) (fun i _ => m - (intOf i).toNat)
  case atStart => exact ⟨0, Nat.zero_le _, rfl, O0, ⟨Chg.refl _ _⟩⟩
  case round =>
    clear O0
    obtain ⟨k, hk, rfl, HW, HC⟩ := hrel
    by_cases hlt : k < m
    · obtain ⟨ad, rfl, hc⟩ := (RY.out.chg HC.out (fun ad e _ h => HY.out ad e h)).at_ (k : Int) (by omega) (by have := HM.out; omega)
      rw [Int.toNat_natCast, rd_nat] at hc
      have hset := own_set HW.out (off + k) (Go.bits .xor .u8 (zs.getD (off + k) 0) (ys.getD k 0))
      rw [xorM_step] at hset
      have HS := As.mk hset
      have hlz : off + k < zs.length := by have := HOFF.out; omega
      obtain ⟨f0, f1⟩ := own_at HW.out (off + k) (by rw [xorM_length]; exact hlz)
      rw [xorM_rd hlz] at f0
      obtain ⟨b0, b1⟩ := BY.out.1.getD (off + k)
      obtain ⟨b2, b3⟩ := BY.out.2.getD k
      generalize zs.getD (off + k) 0 = q at *
      generalize ys.getD k 0 = q2 at *
      have i1 : (k : Int) < (m : Int) := by omega
      have i2 : (k : Int) < (dn : Int) := by omega
      have i3 : k < dn := by omega
      clear hset hlz
      go_wp2
      go_still_tail 10, (by kernel_rfl)
      change wpList _ _ _ _ _ (World.drew wr)
      go_wp2
      go_roundw
      case rel => exact ⟨k + 1, by omega, by go_num, HS, ⟨(HC.out.setCell (p := ⟨g, off + k, none⟩) _ (fun _ => rfl)).drew⟩⟩
      case measure => simp [intOf]; omega
    · obtain rfl : k = m := by omega
      go_wp2
      go_end0
      exact ⟨rfl, HW.out, HC.out⟩
end Go.Proofs.YtlpningplmbnhaaDoor
