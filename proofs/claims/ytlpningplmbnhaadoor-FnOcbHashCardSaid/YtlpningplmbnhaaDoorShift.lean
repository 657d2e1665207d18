/- The contracts of spec.bitAt and spec.Shifted, byteutil.ShiftNBytesLeft, impl.ShiftBits. -/
import Derived.Test.YtlpningplmbnhaaDoorBase
import Derived.Test.YtlpningplmbnhaaDoorV3
import Derived.Test.YtlpningplmbnhaaDoorShiftP
set_option linter.unusedVariables false
set_option linter.unusedSimpArgs false
namespace Go.Proofs.YtlpningplmbnhaaDoor
open Go.RowKit V

theorem bit_val {xs : List Int} (h : Byt xs) (i : Nat) : Go.bits .and .u8 (rd xs ((i / 8 : Nat) : Int) / 2 ^ (7 - i % 8)) 1 = ((bitn xs i : Nat) : Int) := by
  have hl := byn_lt h (i / 8)
  have h2 : byn xs (i / 8) / 2 ^ (7 - i % 8) ≤ byn xs (i / 8) := Nat.div_le_self _ _
  have e : rd xs ((i / 8 : Nat) : Int) / 2 ^ (7 - i % 8) = ((byn xs (i / 8) / 2 ^ (7 - i % 8) : Nat) : Int) := by
    rw [rd_nat, ← byn_cast h, Int.natCast_ediv, Int.natCast_pow]; rfl
  have hb : bitn xs i = byn xs (i / 8) / 2 ^ (7 - i % 8) % 2 := rfl
  rw [e, hb]
  generalize byn xs (i / 8) / 2 ^ (7 - i % 8) = y at *
  have hy : y ≤ 255 := by omega
  rw [u8_and _ _ (by omega) (by omega) (by omega) (by omega), Int.toNat_natCast]
  exact congrArg _ (Nat.and_one_is_mod y)

set_option maxRecDepth 100000 in
set_option maxHeartbeats 1000000 in
theorem bitAt_any (A : Option Addr) (n c : Nat) (xs : List Int) (i : Nat) (w : World) (hn : n = xs.length) (rx : Rb w A xs) (hb : Byt xs) (hl : n ≤ 140737488355328) (hi : i ≤ 2305843009213693952) :
    Calls Tryd.prog 32 #[.slice A n c, .int .i64 i] w fun e w' => e = .returned (.int .u8 (bitn xs i : Nat)) ∧ w' = w := by
  have HN := As.mk hn
  by_cases h : i < 8 * n
  · obtain ⟨ad, rfl, hc⟩ := rx.at_ ((i / 8 : Nat) : Int) (by omega) (by omega)
    rw [Int.toNat_natCast] at hc
    have hr := hb.rd ((i / 8 : Nat) : Int)
    have HQ := As.mk (bit_val hb i)
    generalize rd xs ((i / 8 : Nat) : Int) = q at *
    generalize hbn : ((bitn xs i : Nat) : Int) = bn at *
    have h2 : i / 8 < n := by omega
    clear rx hn hb hbn
    go_enter Tryd.func32, Tryd.ntmps32
    go_wp2
    go_ret
    exact ⟨by rw [HQ.out]; rfl, rfl⟩
  · have hq : As (bitn xs i = 0) := ⟨bitn_out xs i (by omega)⟩
    clear rx hn hb
    go_enter Tryd.func32, Tryd.ntmps32
    go_wp2
    go_ret
    exact ⟨by rw [hq.out]; rfl, rfl⟩
end Go.Proofs.YtlpningplmbnhaaDoor
