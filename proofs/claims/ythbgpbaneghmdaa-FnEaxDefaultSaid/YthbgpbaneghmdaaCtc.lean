/- The contract of crypto/subtle.ConstantTimeCompare. -/
import Derived.Test.YthbgpbaneghmdaaCtrN
set_option linter.unusedVariables false
set_option linter.unusedSimpArgs false
namespace Go.Proofs.Ythbgpbaneghmdaa
open Go.RowKit V
theorem b2u_true (w : World) : (callFunc 102 #[.bool true]).run Try.prog w = .ok (.value (.int .u8 1)) w := by kernel_rfl
theorem b2u_false (w : World) : (callFunc 102 #[.bool false]).run Try.prog w = .ok (.value (.int .u8 0)) w := by kernel_rfl
theorem byteEq_any (x : Int) (w : World) : Calls Try.prog 101 #[.int .u8 x, .int .u8 0] w fun e w' => e = .returned (.int .i64 (if x = 0 then 1 else 0)) ∧ w' = w := by
  have b1 := b2u_true
  have b0 := b2u_false
  by_cases h : x = 0
  · subst h
    go_enter Try.func101, Try.ntmps101
    go_wp2_with fail
    go_ret
    exact ⟨rfl, rfl⟩
  · rw [if_neg h]
    have hb : (x == 0) = false := by simp [h]
    go_enter Try.func101, Try.ntmps101
    go_wp2_with fail
    go_ret
    exact ⟨rfl, rfl⟩
/-- The or of all differences. -/
def orX (xs ys : List Int) : Nat → Int
  | 0 => 0
  | k + 1 => Go.bits .or .u8 (orX xs ys k) (Go.bits .xor .u8 (xs.getD k 0) (ys.getD k 0))
theorem bo_zero (a b : Int) (ha : 0 ≤ a ∧ a ≤ 255) (hb : 0 ≤ b ∧ b ≤ 255) : Go.bits .or .u8 a b = 0 ↔ a = 0 ∧ b = 0 := by
  rw [u8_or a b (by omega) (by omega) (by omega) (by omega)]
  have h : a.toNat ||| b.toNat = 0 ↔ a.toNat = 0 ∧ b.toNat = 0 := Nat.or_eq_zero_iff
  omega
theorem bx_zero_iff (a b : Int) (ha : 0 ≤ a ∧ a ≤ 255) (hb : 0 ≤ b ∧ b ≤ 255) : Go.bits .xor .u8 a b = 0 ↔ a = b := by
  rw [u8_xor a b (by omega) (by omega) (by omega) (by omega)]
  have h : a.toNat ^^^ b.toNat = 0 ↔ a.toNat = b.toNat := ⟨fun h => by have h2 := congrArg (· ^^^ b.toNat) h; simpa [Nat.xor_assoc] using h2, fun h => by rw [h, Nat.xor_self]⟩
  omega
theorem orX_range {xs ys : List Int} (hx : Byt xs) (hy : Byt ys) : ∀ k, 0 ≤ orX xs ys k ∧ orX xs ys k ≤ 255
  | 0 => ⟨Int.le_refl _, by show (0 : Int) ≤ 255; decide⟩
  | k + 1 => bo_range _ _ (orX_range hx hy k) (bx_range _ _ (hx.getD k) (hy.getD k))
theorem orX_zero {xs ys : List Int} (hx : Byt xs) (hy : Byt ys) : ∀ k, orX xs ys k = 0 ↔ ∀ j, j < k → xs.getD j 0 = ys.getD j 0
  | 0 => ⟨fun _ j h => by omega, fun _ => rfl⟩
  | k + 1 => by
    rw [orX, bo_zero _ _ (orX_range hx hy k) (bx_range _ _ (hx.getD k) (hy.getD k)), bx_zero_iff _ _ (hx.getD k) (hy.getD k), orX_zero hx hy k]
    constructor
    · rintro ⟨h1, h2⟩ j hj
      by_cases e : j = k
      · subst e; exact h2
      · exact h1 j (by omega)
    · exact fun h => ⟨fun j hj => h j (by omega), h k (by omega)⟩
theorem orX_same {xs ys : List Int} (hx : Byt xs) (hy : Byt ys) (hl : xs.length = ys.length) : orX xs ys xs.length = 0 ↔ xs = ys := by
  rw [orX_zero hx hy]
  exact ⟨fun h => ext_getD hl h, fun h j _ => by rw [h]⟩
set_option maxRecDepth 100000 in
set_option maxHeartbeats 1000000 in
theorem ctcFips_any (A1 : Option Addr) (n c1 : Nat) (xs : List Int) (A2 : Option Addr) (c2 : Nat) (ys : List Int) (w : World) (h1 : n = xs.length) (h2 : n = ys.length) (rx : Rb w A1 xs) (ry : Rb w A2 ys) (bx : Byt xs) (by_ : Byt ys) :
    Calls Try.prog 100 #[.slice A1 n c1, .slice A2 n c2] w fun e w' => e = .returned (.int .i64 (if xs = ys then 1 else 0)) ∧ ∃ m, w' = w.drewN m := by
  have HX := As.mk rx
  have HY := As.mk ry
  have H1 := As.mk h1
  have H2 := As.mk h2
  have hm : n ≤ 9223372036854775807 := by have := rx.1; omega
  have HS := As.mk (orX_same bx by_ (h1.symm.trans h2))
  have hbne : ((n : Int) != (n : Int)) = false := by simp
  obtain ⟨q, hq⟩ : ∃ q : Int, q = if xs = ys then 1 else 0 := ⟨_, rfl⟩
  have HQ := As.mk hq
  rw [← hq]
  clear rx ry h1 h2 bx by_ hq
  go_enter Try.func100, Try.ntmps100
  go_wp2_with fail
  go_loopw [5, 6] (fun v i w' => ∃ k m : Nat, k ≤ n ∧ i = .int .i64 k ∧ v = .int .u8 (orX xs ys k) ∧ w' = w.drewN m) (fun _ i _ => n - (intOf i).toNat)
  case atStart => exact ⟨0, 0, Nat.zero_le _, rfl, rfl, rfl⟩
  case round =>
    obtain ⟨k, m, hk, rfl, rfl, rfl⟩ := hrel
    by_cases hlt : k < n
    · have hltz : (k : Int) < (n : Int) := by omega
      obtain ⟨a0, rfl, hc0⟩ := HX.out.at_ (k : Int) (by omega) (by have := H1.out; omega)
      obtain ⟨a1, rfl, hc1⟩ := HY.out.at_ (k : Int) (by omega) (by have := H2.out; omega)
      simp only [Int.toNat_natCast, rd_nat] at hc0 hc1
      have e1 : IntKind.i64.wrap ((k : Int) + 1) = ((k + 1 : Nat) : Int) := by rw [IntKind.wrap_i64]; omega
      go_wp2_with fail
      go_quiet (fail)
      go_wp2_with fail
      go_roundw
      case rel => exact ⟨k + 1, m + nq, by omega, by go_num, rfl, by simp⟩
      case measure => simp [intOf]; omega
    · have hz : ¬ ((k : Int) < (n : Int)) := by omega
      have HKN : As (k = n) := ⟨by omega⟩
      obtain ⟨v, hv⟩ : ∃ v, v = orX xs ys k := ⟨_, rfl⟩
      rw [← hv]
      have HV : As (v = 0 ↔ xs = ys) := ⟨by rw [hv, HKN.out, H1.out]; exact HS.out⟩
      clear hv HS
      go_wp2_with fail
      refine (byteEq_any v _).mono ?_
      rintro e w2 ⟨rfl, rfl⟩
      by_cases hv0 : v = 0
      · rw [if_pos hv0]
        have HE := As.mk (HV.out.1 hv0)
        clear hv0 HV
        go_wp2_with fail
        go_ret
        exact ⟨by rw [HQ.out, if_pos HE.out]; rfl, m, rfl⟩
      · rw [if_neg hv0]
        have HE : As (¬ xs = ys) := ⟨fun e => hv0 (HV.out.2 e)⟩
        clear hv0 HV
        go_wp2_with fail
        go_ret
        exact ⟨by rw [HQ.out, if_neg HE.out]; rfl, m, rfl⟩
theorem ctc_any (A1 : Option Addr) (n c1 : Nat) (xs : List Int) (A2 : Option Addr) (c2 : Nat) (ys : List Int) (w : World) (h1 : n = xs.length) (h2 : n = ys.length) (rx : Rb w A1 xs) (ry : Rb w A2 ys) (bx : Byt xs) (by_ : Byt ys) :
    Calls Try.prog 97 #[.slice A1 n c1, .slice A2 n c2] w fun e w' => e = .returned (.int .i64 (if xs = ys then 1 else 0)) ∧ ∃ m, w' = w.drewN m := by
  have H := As.mk (ctcFips_any A1 n c1 xs A2 c2 ys w h1 h2 rx ry bx by_)
  clear h1 h2 rx ry bx by_
  obtain ⟨q, hq⟩ : ∃ q : Int, q = if xs = ys then 1 else 0 := ⟨_, rfl⟩
  rw [← hq] at H ⊢
  clear hq
  go_enter Try.func97, Try.ntmps97
  go_wp2_with fail
  refine H.out.mono ?_
  rintro e w2 ⟨rfl, m, rfl⟩
  go_wp2_with fail
  go_ret
  exact ⟨rfl, m, rfl⟩
end Go.Proofs.Ythbgpbaneghmdaa
