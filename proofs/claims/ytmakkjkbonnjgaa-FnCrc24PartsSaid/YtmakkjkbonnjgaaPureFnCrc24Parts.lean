/- The running sum of RFC 4880, 6.1 (armor's crc24), of two strings one behind the other is that of the second one begun with the sum of the first; three bytes that are the sum have the sum 0 behind it. No condition beside the statement's own bounds. -/
import Derived.Test.YtmakkjkbonnjgaaPFnCrc24Partsx1
import Derived.Laws.BitsAllLaws
namespace Go.Proofs.Ytmakkjkbonnjgaa.Pure
open Go.RowKit Go.Proofs.Ytmakkjkbonnjgaa.PFnCrc24Parts Go.Proofs.YtmakkjkbonnjgaaW.PrintWords Go.Proofs.YtmakkjkbonnjgaaW.PrintLast

def stepA (r : Int) : Int := if (Go.bits .and .u32 ((r * 2) % 4294967296) 16777216) = 0 then (r * 2) % 4294967296 else Go.bits .xor .u32 ((r * 2) % 4294967296) 25578747
def many : Nat → Int → Int
  | 0, r => r
  | n + 1, r => many n (stepA r)
def stepB (r b : Int) : Int := many 8 (Go.bits .xor .u32 r (((b % 4294967296) * 65536) % 4294967296))
def crc (r : Int) (xs : List Int) : Int := xs.foldl stepB r

theorem inner (xs : List Int) (n i : Int) (k : Nat) : ∀ (d : Nat) (r : Int), d ≤ 8 →
    armor_crc24.l1 (k + d + 1) r (8 - (d : Int)) xs n i = armor_crc24.l0 k (many d r) xs n (wrap64 (i + 1)) := by
  intro d
  induction d with
  | zero => intro r _; simp [armor_crc24.l1, many]
  | succ d ih =>
    intro r hd
    have e : wrap64 ((8 - ((d + 1 : Nat) : Int)) + 1) = 8 - (d : Int) := by unfold wrap64; omega
    have hlt : (8 - ((d + 1 : Nat) : Int)) < 8 := by omega
    have h1 := ih (stepA r) (by omega)
    rw [show k + (d + 1) + 1 = (k + d + 1) + 1 from by omega]
    simp only [armor_crc24.l1]
    rw [if_pos hlt, e]
    unfold stepA at h1
    simp only [many]
    unfold stepA
    by_cases hc : (Go.bits .and .u32 ((r * 2) % 4294967296) 16777216) = 0
    · rw [if_pos hc] at h1 ⊢; rw [if_pos hc]; exact h1
    · rw [if_neg hc] at h1 ⊢; rw [if_neg hc]; exact h1

theorem outer (xs : List Int) (hn : xs.length ≤ 9223372036854775807) : ∀ (d : Nat) (i : Nat) (k : Nat) (r : Int), i + d = xs.length → 10 * d + 1 ≤ k →
    armor_crc24.l0 k r xs (xs.length : Int) (i : Int) = some (crc r (xs.drop i)) := by
  intro d
  induction d with
  | zero =>
    intro i k r hi hk
    obtain ⟨k, rfl⟩ : ∃ m, k = m + 1 := ⟨k - 1, by omega⟩
    simp only [armor_crc24.l0]
    rw [if_neg (by omega), List.drop_eq_nil_of_le (by omega)]; rfl
  | succ d ih =>
    intro i k r hi hk
    obtain ⟨k, rfl⟩ : ∃ m, k = (m + 8 + 1) + 1 := ⟨k - 10, by omega⟩
    have hlt : i < xs.length := by omega
    simp only [armor_crc24.l0]
    rw [if_pos (by omega), if_pos (by omega), if_pos (by omega)]
    have h := inner xs (xs.length : Int) (i : Int) k 8 (Go.bits .xor .u32 r ((((rd xs i) % 4294967296) * 65536) % 4294967296)) (by omega)
    rw [show (8 - ((8 : Nat) : Int)) = 0 from by omega] at h
    rw [h]
    have e : wrap64 ((i : Int) + 1) = ((i + 1 : Nat) : Int) := by unfold wrap64; omega
    rw [e, ih (i + 1) k _ (by omega) (by omega)]
    rw [List.drop_eq_getElem_cons hlt]
    have er : rd xs (i : Int) = xs[i] := by simp [rd, List.getD_eq_getElem?_getD, List.getElem?_eq_getElem hlt]
    rw [er]; rfl

theorem crc24_f (xs : List Int) (hn : xs.length ≤ 9223372036854775807) (r : Int) (k : Nat) (hk : 10 * xs.length + 1 ≤ k) : impl_Crc24.f k r xs = some (crc r xs) := by
  have h := outer xs hn xs.length 0 k r (by omega) hk
  simp only [List.drop_zero] at h
  unfold impl_Crc24.f armor_ZzCrc24.f armor_crc24.f
  rw [show ((0 : Nat) : Int) = 0 from rfl] at h
  rw [h]; rfl

/-! numbers below 2^24 -/
theorem and_top (x : Nat) (h : x < 33554432) : (x &&& 16777216 = 0 ↔ x < 16777216) := by
  have h2 : x &&& 16777216 = (x / 16777216) * 16777216 := by
    apply Nat.eq_of_testBit_eq
    intro j
    rw [Nat.testBit_and, show (16777216 : Nat) = 2 ^ 24 from rfl, Nat.testBit_mul_two_pow, Nat.testBit_div_two_pow, Nat.testBit_two_pow]
    by_cases hj : 24 = j
    · subst hj; simp
    · by_cases hj2 : 24 ≤ j
      · have : x.testBit j = false := Nat.testBit_lt_two_pow (Nat.lt_of_lt_of_le h (Nat.le_trans (by decide : 33554432 ≤ 2 ^ 25) (Nat.pow_le_pow_right (by decide) (by omega : 25 ≤ j))))
        simp [hj, hj2]
        exact this
      · simp [hj, hj2]
  rw [h2]; omega

theorem stepA_small (r : Int) (h0 : 0 ≤ r) (h : r < 8388608) : stepA r = r * 2 := by
  obtain ⟨n, rfl⟩ := Int.eq_ofNat_of_zero_le h0
  have e : ((n : Int) * 2) % 4294967296 = ((2 * n : Nat) : Int) := by omega
  unfold stepA
  rw [e, show (16777216 : Int) = ((16777216 : Nat) : Int) from rfl, u32_and_nat _ _ (by omega) (by omega)]
  rw [if_pos (by rw [(and_top (2 * n) (by omega)).2 (by omega)]; rfl)]
  omega

theorem xor_top (x : Nat) (h : x < 33554432) (h2 : 16777216 ≤ x) : x ^^^ 25578747 < 16777216 := by
  have h3 : x ^^^ 25578747 < 2 ^ 25 := Nat.xor_lt_two_pow (by omega) (by omega)
  refine Nat.lt_pow_two_of_testBit (n := 24) _ (fun j hj => ?_)
  by_cases e : j = 24
  · subst e
    rw [Nat.testBit_xor]
    have : x.testBit 24 = true := by
      rw [Nat.testBit_eq_decide_div_mod_eq]; simp; omega
    rw [this]; decide
  · exact Nat.testBit_lt_two_pow (Nat.lt_of_lt_of_le h3 (Nat.pow_le_pow_right (by decide) (by omega)))

theorem many_small : ∀ (d n : Nat), n * 2 ^ d < 16777216 → many d (n : Int) = ((n * 2 ^ d : Nat) : Int)
  | 0, n, _ => by simp [many]
  | d + 1, n, h => by
    have e : n * 2 ^ (d + 1) = (2 * n) * 2 ^ d := by rw [Nat.pow_succ, Nat.mul_comm 2 n, Nat.mul_assoc, Nat.mul_comm 2 (2 ^ d)]
    rw [e] at h ⊢
    have h2 : 2 * n ≤ 2 * n * 2 ^ d := Nat.le_mul_of_pos_right _ (Nat.two_pow_pos d)
    simp only [many]
    rw [stepA_small (n : Int) (by omega) (by omega), show (n : Int) * 2 = ((2 * n : Nat) : Int) from by omega]
    exact many_small d (2 * n) h

theorem stepA_range (r : Int) (h0 : 0 ≤ r) (h : r < 16777216) : 0 ≤ stepA r ∧ stepA r < 16777216 := by
  obtain ⟨n, rfl⟩ := Int.eq_ofNat_of_zero_le h0
  have e : ((n : Int) * 2) % 4294967296 = ((2 * n : Nat) : Int) := by omega
  unfold stepA
  rw [e, show (16777216 : Int) = ((16777216 : Nat) : Int) from rfl, u32_and_nat _ _ (by omega) (by omega)]
  by_cases hc : 2 * n < 16777216
  · rw [if_pos (by rw [(and_top (2 * n) (by omega)).2 hc]; rfl)]; omega
  · rw [if_neg (fun hh => hc ((and_top (2 * n) (by omega)).1 (by exact_mod_cast hh)))]
    rw [show (25578747 : Int) = ((25578747 : Nat) : Int) from rfl, u32_xor_nat _ _ (by omega) (by omega)]
    have := xor_top (2 * n) (by omega) (by omega)
    omega

theorem many_range : ∀ (d : Nat) (r : Int), 0 ≤ r → r < 16777216 → 0 ≤ many d r ∧ many d r < 16777216
  | 0, r, h0, h => ⟨h0, h⟩
  | d + 1, r, h0, h => by
    obtain ⟨a, b⟩ := stepA_range r h0 h
    exact many_range d _ a b

theorem xor_byte (r b : Int) (h0 : 0 ≤ r) (h : r < 16777216) (b0 : 0 ≤ b) (b1 : b < 256) :
    ∃ n : Nat, Go.bits .xor .u32 r (((b % 4294967296) * 65536) % 4294967296) = (n : Int) ∧ n < 16777216 ∧ n = r.toNat ^^^ (b.toNat * 65536) := by
  obtain ⟨n, rfl⟩ := Int.eq_ofNat_of_zero_le h0
  obtain ⟨m, rfl⟩ := Int.eq_ofNat_of_zero_le b0
  have e : (((m : Int) % 4294967296) * 65536) % 4294967296 = ((m * 65536 : Nat) : Int) := by omega
  refine ⟨_, by rw [e, u32_xor_nat _ _ (by omega) (by omega)], ?_, by simp⟩
  exact Nat.xor_lt_two_pow (n := 24) (by omega) (by omega)

theorem stepB_range (r b : Int) (h0 : 0 ≤ r) (h : r < 16777216) (b0 : 0 ≤ b) (b1 : b < 256) : 0 ≤ stepB r b ∧ stepB r b < 16777216 := by
  obtain ⟨n, e, hn, _⟩ := xor_byte r b h0 h b0 b1
  unfold stepB
  rw [e]
  exact many_range 8 _ (by omega) (by omega)

theorem crc_range : ∀ (xs : List Int) (r : Int), (∀ x ∈ xs, 0 ≤ x ∧ x < 256) → 0 ≤ r → r < 16777216 → 0 ≤ crc r xs ∧ crc r xs < 16777216
  | [], r, _, h0, h => ⟨h0, h⟩
  | x :: xs, r, hx, h0, h => by
    obtain ⟨a, b⟩ := stepB_range r x h0 h (hx x (by simp)).1 (hx x (by simp)).2
    exact crc_range xs _ (fun y hy => hx y (by simp [hy])) a b

theorem xor_own (n : Nat) : n ^^^ (n / 65536 * 65536) = n % 65536 := by
  apply Nat.eq_of_testBit_eq
  intro j
  rw [Nat.testBit_xor, show (65536 : Nat) = 2 ^ 16 from rfl, Nat.testBit_mul_two_pow, Nat.testBit_div_two_pow, Nat.testBit_mod_two_pow]
  by_cases hj : 16 ≤ j
  · rw [show j - 16 + 16 = j from by omega]; simp [hj, show ¬ j < 16 by omega]
  · simp [hj, show j < 16 by omega]

/-- A byte that is the top one of the sum leaves the two lower ones, moved up. -/
theorem stepB_own (r : Int) (h0 : 0 ≤ r) (h : r < 16777216) : stepB r (r / 65536 % 256) = (r % 65536) * 256 := by
  obtain ⟨n, e, hn, hx⟩ := xor_byte r (r / 65536 % 256) h0 h (by omega) (by omega)
  obtain ⟨q, rfl⟩ := Int.eq_ofNat_of_zero_le h0
  have hq : n = q % 65536 := by
    rw [hx, show ((q : Int) / 65536 % 256).toNat = q / 65536 from by omega, Int.toNat_natCast]
    exact xor_own q
  unfold stepB
  rw [e]
  rw [many_small 8 n (by omega)]
  omega

theorem crc_own (r : Int) (h0 : 0 ≤ r) (h : r < 16777216) : crc r [r / 65536 % 256, r / 256 % 256, r % 256] = 0 := by
  unfold crc
  simp only [List.foldl]
  rw [stepB_own r h0 h]
  have e1 : r / 256 % 256 = (r % 65536 * 256) / 65536 % 256 := by omega
  rw [e1, stepB_own (r % 65536 * 256) (by omega) (by omega)]
  have e2 : r % 256 = (r % 65536 * 256 % 65536 * 256) / 65536 % 256 := by omega
  rw [e2, stepB_own (r % 65536 * 256 % 65536 * 256) (by omega) (by omega)]
  omega

theorem crc_one : crc 0 [1] ≠ 0 := by decide +kernel

theorem crc_append (r : Int) (xs ys : List Int) : crc r (xs ++ ys) = crc (crc r xs) ys := by simp [crc, List.foldl_append]

theorem wf_u8 {n : Int} (h : (Lit.int .u8 n).wf = true) : 0 ≤ n ∧ n < 256 := by
  simp [Lit.wf, IntKind.min, IntKind.max, IntKind.signed, IntKind.bits] at h
  omega
theorem wf_u32 {n : Int} (h : (Lit.int .u32 n).wf = true) : 0 ≤ n ∧ n < 4294967296 := by
  simp [Lit.wf, IntKind.min, IntKind.max, IntKind.signed, IntKind.bits] at h
  omega

theorem u8_range {xs : List Int} (h : ∀ x ∈ xs, (Lit.int .u8 x).wf = true) : ∀ x ∈ xs, 0 ≤ x ∧ x < 256 := by
  intro x hx
  have := h x hx
  exact wf_u8 this

theorem masked (a : Int) (h : (Lit.int .u32 a).wf = true) : 0 ≤ Go.bits .and .u32 a 16777215 ∧ Go.bits .and .u32 a 16777215 < 16777216 := by
  have h' : 0 ≤ a ∧ a < 4294967296 := by
    exact wf_u32 h
  obtain ⟨n, rfl⟩ := Int.eq_ofNat_of_zero_le h'.1
  rw [show (16777215 : Int) = ((16777215 : Nat) : Int) from rfl, u32_and_nat _ _ (by omega) (by omega)]
  have : n &&& 16777215 ≤ 16777215 := Nat.and_le_right
  omega

theorem FnCrc24Parts : laws_FnCrc24Parts.Pure := by
  intro a0 l1 l2 w0 m1 b1 w1 m2 b2 w2
  obtain ⟨c0, c1⟩ := masked a0 w0
  have r1 := u8_range w1
  have r2 := u8_range w2
  refine ⟨10 * (l1.length + l2.length) + 100, ?_⟩
  unfold laws_FnCrc24Parts.f
  have key : ∀ b : Bool, (b = false → l1.length ≤ 2147483647 ∧ l2.length ≤ 2147483647) → laws_FnCrc24Parts.j0 (10 * (l1.length + l2.length) + 100) a0 l1 l2 b = some true := by
    intro b hb
    rw [show 10 * (l1.length + l2.length) + 100 = (10 * (l1.length + l2.length) + 99) + 1 from rfl]
    simp only [laws_FnCrc24Parts.j0]
    cases b with
    | true => rfl
    | false =>
      obtain ⟨p1, p2⟩ := hb rfl
      rw [if_neg (by decide)]
      by_cases hs : wrap64 ((l1.length : Int) + (l2.length : Int)) > 4096
      · rw [if_pos hs]
      · rw [if_neg hs]
        have hs' : l1.length + l2.length ≤ 4096 := by unfold wrap64 at hs; omega
        obtain ⟨s0, s1⟩ := crc_range l1 _ r1 c0 c1
        obtain ⟨t0, t1⟩ := crc_range l2 _ r2 s0 s1
        rw [crc24_f l1 (by omega) _ _ (by omega)]
        simp only [Option.bind_some, List.length_nil, List.nil_append]
        rw [if_pos (by omega), if_pos (by omega)]
        rw [crc24_f (l1 ++ l2) (by rw [List.length_append]; omega) _ _ (by rw [List.length_append]; omega)]
        simp only [Option.bind_some]
        rw [crc24_f l2 (by omega) _ _ (by omega)]
        simp only [Option.bind_some]
        rw [if_pos (crc_append _ _ _).symm]
        rw [crc24_f _ (by simp) _ _ (by simp only [List.length_cons, List.length_nil]; omega)]
        simp only [Option.bind_some]
        rw [crc_own _ s0 s1, if_pos rfl]
        rw [crc24_f _ (by simp) _ _ (by simp only [List.length_cons, List.length_nil]; omega)]
        simp only [Option.bind_some]
        rw [bne_iff_ne.2 crc_one]
  by_cases h1 : (l1.length : Int) > 2147483647
  · rw [if_pos h1]; exact key true (by simp)
  · rw [if_neg h1]
    refine key _ (fun h => ?_)
    have := of_decide_eq_false h
    omega

end Go.Proofs.Ytmakkjkbonnjgaa.Pure
