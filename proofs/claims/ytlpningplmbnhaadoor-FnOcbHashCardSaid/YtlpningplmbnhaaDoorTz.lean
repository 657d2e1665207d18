/- The contracts of math/bits.TrailingZeros64 and TrailingZeros over the table, for 1 to 256; spec.zerosBehind. -/
import Derived.Test.YtlpningplmbnhaaDoorBase
import Derived.Test.YtlpningplmbnhaaDoorV3
import Derived.Deep.DeepCutAuto
set_option linter.unusedVariables false
set_option linter.unusedSimpArgs false
namespace Go.Proofs.YtlpningplmbnhaaDoor
open Go.RowKit V
/-- The table of TrailingZeros64. -/
def tab64 : List Int := [0, 1, 56, 2, 57, 49, 28, 3, 61, 58, 42, 50, 38, 29, 17, 4, 62, 47, 59, 36, 45, 43, 51, 22, 53, 39, 33, 30, 24, 18, 12, 5, 63, 55, 48, 27, 60, 41, 37, 16, 46, 35, 44, 21, 52, 32, 23, 11, 54, 26, 40, 15, 34, 20, 31, 10, 25, 14, 19, 9, 13, 8, 7, 6]
/-- The variable holds it. -/
def Tab (w : World) : Prop := (∀ j, j < 64 → w.cell? ⟨1, j, none⟩ = some (.int .u8 (tab64.getD j 0))) ∧ 1 < w.heap.size
theorem Tab.chg {S : Nat → Prop} {w w' : World} (h : Tab w) (hc : Chg S w w') (hs : ¬ S 1) : Tab w' :=
  ⟨fun j hj => (hc.cell (p := ⟨1, j, none⟩) h.2 hs).trans (h.1 j hj), Nat.lt_of_lt_of_le h.2 hc.size⟩
theorem Tab.keep {w w' : World} (h : Tab w) (hc : Chg NoB w w') : Tab w' := h.chg hc (fun e => e)
/-- How often a number can be halved. -/
def tzF : Nat → Nat → Nat
  | 0, _ => 0
  | f + 1, n => if n % 2 = 0 then tzF f (n / 2) + 1 else 0
def tz (n : Nat) : Nat := tzF 9 n
theorem tz_le : ∀ n, 1 ≤ n → n ≤ 256 → tz n ≤ 8 := by
  have h : ∀ n : Fin 257, 1 ≤ n.val → tz n.val ≤ 8 := by decide +kernel
  intro n h1 h2
  exact h ⟨n, by omega⟩ h1
/-- The steps of the reckoning. -/
def dbI (x : Nat) : Int := Go.bits .and .u64 (x : Int) (18446744073709551616 - (x : Int))
def dbJ (x : Nat) : Nat := ((dbI x * 285870213051353865) % 18446744073709551616 / 288230376151711744).toNat
theorem db_step : ∀ x, 1 ≤ x → x ≤ 256 → dbJ x < 64 ∧ tab64.getD (dbJ x) 0 = (tz x : Int) ∧ 0 ≤ dbI x ∧ dbI x ≤ 256 := by
  have h : ∀ x : Fin 257, 1 ≤ x.val → dbJ x.val < 64 ∧ tab64.getD (dbJ x.val) 0 = (tz x.val : Int) ∧ 0 ≤ dbI x.val ∧ dbI x.val ≤ 256 := by decide +kernel
  intro x h1 h2
  exact h ⟨x, by omega⟩ h1
theorem db_neg (x : Nat) (h1 : 1 ≤ x) (h2 : x ≤ 256) : IntKind.u64.wrap (-(x : Int)) = 18446744073709551616 - (x : Int) := by
  have e : IntKind.u64.wrap (-(x : Int)) = (-(x : Int)) % 18446744073709551616 := by simp [IntKind.wrap, IntKind.bits, IntKind.signed]
  rw [e]
  omega
theorem db_mul (x : Nat) : IntKind.u64.wrap (dbI x * 285870213051353865) / 288230376151711744 = (dbJ x : Int) := by
  have e : IntKind.u64.wrap (dbI x * 285870213051353865) = (dbI x * 285870213051353865) % 18446744073709551616 := by simp [IntKind.wrap, IntKind.bits, IntKind.signed]
  rw [e]
  exact (Int.toNat_of_nonneg (Int.ediv_nonneg (Int.emod_nonneg _ (by decide)) (by decide))).symm
theorem tab_index (j : Nat) (hj : j < 64) (hj2 : (j : Int) < 64) (W : World) : (Instr.indexAt 77 (.pointer (some ⟨1, 0, none⟩)) (.int .u64 j)).run Tryd.prog W = .ok (.pointer (some ⟨1, j, none⟩)) W := by go_simp
set_option maxRecDepth 100000 in
set_option maxHeartbeats 1000000 in
theorem tz64_any (x : Nat) (w : World) (h1 : 1 ≤ x) (h2 : x ≤ 256) (ht : Tab w) :
    Calls Tryd.prog 35 #[.int .u64 x] w fun e w' => e = .returned (.int .i64 (tz x : Int)) ∧ w' = w := by
  obtain ⟨hj, ht2, i0, i1⟩ := db_step x h1 h2
  have hz := ht.1 _ hj
  rw [ht2] at hz
  have htz := tz_le x h1 h2
  have hne : ((x : Int) == 0) = false := by simp; omega
  have hneg := db_neg x h1 h2
  have hand : Go.bits .and .u64 (x : Int) (18446744073709551616 - (x : Int)) = dbI x := rfl
  have hjj := db_mul x
  have hidx := tab_index (dbJ x) hj (by omega)
  clear hj
  generalize dbI x = q at *
  generalize dbJ x = j at *
  generalize tz x = t at *
  go_enter Tryd.func35, Tryd.ntmps35
  go_wp2
  go_ret
  exact ⟨rfl, rfl⟩
set_option maxRecDepth 100000 in
theorem tz_any (x : Nat) (w : World) (h1 : 1 ≤ x) (h2 : x ≤ 256) (ht : Tab w) :
    Calls Tryd.prog 28 #[.int .u64 x] w fun e w' => e = .returned (.int .i64 (tz x : Int)) ∧ w' = w := by
  have H := As.mk (tz64_any x w h1 h2 ht)
  clear ht
  go_enter Tryd.func28, Tryd.ntmps28
  go_wp2_with fail
  refine H.out.mono ?_
  rintro e w1 ⟨rfl, rfl⟩
  go_wp2
  go_ret
  exact ⟨rfl, rfl⟩
set_option maxRecDepth 100000 in
set_option maxHeartbeats 1000000 in
theorem zerosBehind_any (x : Nat) (w : World) (h1 : 1 ≤ x) (h2 : x ≤ 256) :
    Calls Tryd.prog 18 #[.int .i64 x] w fun e w' => e = .returned (.int .i64 (tz x : Int)) ∧ w' = w := by
  go_enter Tryd.func18, Tryd.ntmps18
  go_wp2
  go_loop [0, 3] (fun nv kv => ∃ f m k : Nat, nv = .int .i64 m ∧ kv = .int .i64 k ∧ 1 ≤ m ∧ m ≤ 256 ∧ As (m < 2 ^ f) ∧ As (k + f = 9) ∧ As (tzF f m + k = tz x)) (fun nv kv => (intOf nv).toNat)
  case atStart => exact ⟨9, x, 0, rfl, rfl, h1, h2, ⟨by omega⟩, ⟨rfl⟩, ⟨rfl⟩⟩
  case round =>
    obtain ⟨f, m, k, rfl, rfl, hm, hm2, HF, HK, HT⟩ := hrel
    clear h1 h2
    cases f with
    | zero => exfalso; have := HF.out; omega
    | succ f =>
      have hk8 : k ≤ 8 := by have := HK.out; omega
      by_cases he : m % 2 = 0
      · have h1 : ((m : Int).tmod 2 == 0) = true := by
          have : (m : Int).tmod 2 = 0 := by rw [show (2 : Int) = ((2 : Nat) : Int) from rfl, ← Int.ofNat_tmod, he]; rfl
          simp [this]
        have h1' : ((m : Int) % 2 == 0) = true := by simp; omega
        have h2 : (m : Int).tdiv 2 = ((m / 2 : Nat) : Int) := by rw [show (2 : Int) = ((2 : Nat) : Int) from rfl, ← Int.ofNat_tdiv]
        have h2' : (m : Int) / 2 = ((m / 2 : Nat) : Int) := by omega
        have HT2 : As (tzF f (m / 2) + (k + 1) = tz x) := ⟨by have := HT.out; unfold tzF at this; rw [if_pos he] at this; omega⟩
        have HF2 : As (m / 2 < 2 ^ f) := ⟨by have := HF.out; rw [Nat.pow_succ] at this; omega⟩
        have hm3 : 1 ≤ m / 2 := by omega
        have hm4 : m / 2 < m := by omega
        obtain ⟨q, hq⟩ : ∃ q, q = m / 2 := ⟨_, rfl⟩
        rw [← hq] at h2 h2' HT2 HF2 hm3 hm4
        clear hq he
        go_wp2
        go_round
        case rel => exact ⟨f, q, k + 1, rfl, by go_num, by omega, by omega, HF2, ⟨by have := HK.out; omega⟩, HT2⟩
        case measure => simp [intOf]; omega
      · have h1 : ((m : Int).tmod 2 == 0) = false := by
          have : (m : Int).tmod 2 = 1 := by rw [show (2 : Int) = ((2 : Nat) : Int) from rfl, ← Int.ofNat_tmod, show m % 2 = 1 by omega]; rfl
          simp [this]
        have h1' : ((m : Int) % 2 == 0) = false := by simp; omega
        have HT2 : As (k = tz x) := ⟨by have := HT.out; unfold tzF at this; rw [if_neg he] at this; omega⟩
        clear he
        go_wp2
        go_ret
        exact ⟨by rw [HT2.out]; rfl, rfl⟩
end Go.Proofs.YtlpningplmbnhaaDoor
