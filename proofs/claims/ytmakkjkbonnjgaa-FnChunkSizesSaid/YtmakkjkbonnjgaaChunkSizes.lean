/- The walks of FnChunkSizes: a chunk's size is coded by its power of two, less 6. -/
import Derived.Test.YtmakkjkbonnjgaaV2
import Derived.Test.YtmakkjkbonnjgaaShelf
import Derived.Lib.ItoaNum
import Derived.Lib.BitFns
set_option linter.unusedVariables false
set_option linter.unusedSimpArgs false
namespace Go.Proofs.Ytmakkjkbonnjgaa
open Go.RowKit V

/-- The code of a size. -/
def cb (x : Int) : Int := if x = 0 then 12 else if Lib.bitLen x.toNat < 7 then 0 else if 23 < Lib.bitLen x.toNat then 16 else (Lib.bitLen x.toNat : Int) - 7
theorem bl_bounds (x : Nat) (h0 : x ≠ 0) (h : x < 2 ^ 64) : 1 ≤ Lib.bitLen x ∧ 2 ^ (Lib.bitLen x - 1) ≤ x ∧ x < 2 ^ Lib.bitLen x := Lib.bitLenAux_bounds 64 x h h0
theorem cb_le (x : Int) : cb x ≤ 16 := by unfold cb; split <;> (try split) <;> (try split) <;> omega
theorem cb_big (x : Int) (h0 : 4194304 ≤ x) (h : x ≤ 18446744073709551615) : cb x = 16 := by
  obtain ⟨n, rfl⟩ := Int.eq_ofNat_of_zero_le (show 0 ≤ x by omega)
  obtain ⟨a, b, c⟩ := bl_bounds n (by omega) (by omega)
  have hb : 23 ≤ Lib.bitLen n := by
    rcases Nat.lt_or_ge (Lib.bitLen n) 23 with h1 | h1
    · have : 2 ^ Lib.bitLen n ≤ 2 ^ 22 := Nat.pow_le_pow_right (by decide) (by omega)
      omega
    · exact h1
  unfold cb
  rw [Int.toNat_natCast, if_neg (by omega), if_neg (by omega)]
  split
  · rfl
  · omega
theorem cb_pow (k : Nat) (h6 : 6 ≤ k) (h22 : k ≤ 22) : cb ((2 ^ k : Nat) : Int) = (k : Int) - 6 := by
  have hpos : 1 ≤ 2 ^ k := Nat.one_le_two_pow
  have hlt : 2 ^ k < 2 ^ 64 := Nat.pow_lt_pow_right (by decide) (by omega)
  obtain ⟨a, b, c⟩ := bl_bounds (2 ^ k) (by omega) hlt
  have h1 : Lib.bitLen (2 ^ k) - 1 ≤ k := by
    rcases Nat.lt_or_ge k (Lib.bitLen (2 ^ k) - 1) with h | h
    · have := Nat.pow_lt_pow_right (a := 2) (by decide) h; omega
    · exact h
  have h2 : k < Lib.bitLen (2 ^ k) := by
    rcases Nat.lt_or_ge k (Lib.bitLen (2 ^ k)) with h | h
    · exact h
    · have := Nat.pow_le_pow_right (n := 2) (by decide) h; omega
  unfold cb
  rw [Int.toNat_natCast, if_neg (by omega), if_neg (by omega), if_neg (by omega)]
  omega

def ByteIs (r : Int) (w : World) (e : Ending) (w' : World) : Prop := e = .returned (.int .u8 r) ∧ Chg NoB w w'
set_option maxHeartbeats 400000 in
theorem chunkByte_any (x : Int) (g : Nat) (v0 : Value) (w : World) (h0 : 0 ≤ x) (h1 : x ≤ 18446744073709551615) (hg : Blk w g 80 [v0, .int .u64 x]) :
    Calls Try.prog 53 #[.pointer (some ⟨g, 0, none⟩)] w (ByteIs (cb x) w) := by
  have hc := hg.cell 1
  simp only [List.getElem?_cons_zero, List.getElem?_cons_succ] at hc
  have h64 : x < 18446744073709551616 := by omega
  by_cases hx : x = 0
  · have hcb : cb x = 12 := by unfold cb; rw [if_pos hx]
    have HB := As.mk hcb
    have hx2 : (x == 0) = true := by simp [hx]
    clear hcb hx
    go_enter Try.func53, Try.ntmps53
    go_wp2
    go_ret
    exact ⟨by rw [HB.out]; rfl, Chg.refl _ _⟩
  · have hx2 : (x == 0) = false := by simp [hx]
    obtain ⟨a, b, c⟩ := bl_bounds x.toNat (by omega) (by omega)
    have hle : Lib.bitLen x.toNat ≤ 64 := Lib.bitLen_le _ 64 (Nat.le_refl _) (by omega)
    have hcb : cb x = if Lib.bitLen x.toNat < 7 then 0 else if 23 < Lib.bitLen x.toNat then 16 else (Lib.bitLen x.toNat : Int) - 7 := by unfold cb; rw [if_neg hx]
    have H := Lib.hid (Try.bits_Len64 x w h0 h1)
    generalize Lib.bitLen x.toNat = q at *
    clear b c
    by_cases c1 : q < 7
    · rw [if_pos c1] at hcb
      have HB := As.mk hcb
      clear hcb hx
      go_enter Try.func53, Try.ntmps53
      go_wp2_with (go_at_call 65; refine H.out.mono ?_; rintro e w1 ⟨rfl, rfl⟩)
      go_ret
      exact ⟨by rw [HB.out]; rfl, Chg.refl _ _⟩
    · rw [if_neg c1] at hcb
      by_cases c2 : 23 < q
      · rw [if_pos c2] at hcb
        have HB := As.mk hcb
        clear hcb hx
        go_enter Try.func53, Try.ntmps53
        go_wp2_with (go_at_call 65; refine H.out.mono ?_; rintro e w1 ⟨rfl, rfl⟩)
        go_ret
        exact ⟨by rw [HB.out]; rfl, Chg.refl _ _⟩
      · rw [if_neg c2] at hcb
        have HB := As.mk hcb
        clear hcb hx
        go_enter Try.func53, Try.ntmps53
        go_wp2_with (go_at_call 65; refine H.out.mono ?_; rintro e w1 ⟨rfl, rfl⟩)
        go_ret
        exact ⟨by rw [HB.out]; exact congrArg (fun z => Ending.returned (.int .u8 z)) (by omega), Chg.refl _ _⟩
set_option maxHeartbeats 400000 in
theorem implChunkByte_any (x : Int) (w : World) (h0 : 0 ≤ x) (h1 : x ≤ 18446744073709551615) :
    Calls Try.prog 31 #[.int .u64 x] w (ByteIs (cb x) w) := by
  go_enter Try.func31, Try.ntmps31
  go_wp2_with fail
  refine (chunkByte_any x w.heap.size (.int .u8 0) _ h0 h1 (Blk.new w _ [.int .u8 0, .int .u64 x])).mono ?_
  rintro e w1 ⟨rfl, hc⟩
  go_wp2
  go_ret
  exact ⟨rfl, ((Chg.refl NoB w).alloc _).trans hc (fun _ _ e => e)⟩

/-- A power of two, named. -/
theorem two_named (k : Nat) (hk : k ≤ 22) : ∃ P : Int, ((2 ^ k : Nat) : Int) = P ∧ 1 ≤ P ∧ P ≤ 4194304 ∧ IntKind.u64.wrap ((2 : Int) ^ k) = P ∧ wrap64 ((2 : Int) ^ k) = P := by
  have h1 : (2 : Nat) ^ k ≤ 2 ^ 22 := Nat.pow_le_pow_right (by decide) hk
  have h2 : 1 ≤ 2 ^ k := Nat.one_le_two_pow
  have h3 : (2 : Int) ^ k = ((2 ^ k : Nat) : Int) := by rw [Int.natCast_pow]; rfl
  rw [h3]
  generalize 2 ^ k = n at *
  exact ⟨(n : Int), rfl, by omega, by omega, by rw [IntKind.wrap_u64]; omega, by unfold wrap64; omega⟩
set_option maxHeartbeats 400000 in
theorem chunkSize_any (q : Int) (k : Nat) (P : Int) (w : World) (hq0 : 0 ≤ q) (hq : q ≤ 16) (hk : q + 6 = (k : Int)) (hk22 : k ≤ 22) (hP0 : 1 ≤ P) (hP1 : P ≤ 4194304) (hu : IntKind.u64.wrap ((2 : Int) ^ k) = P) :
    Calls Try.prog 32 #[.int .u8 q] w fun e w' => e = .returned (.int .i64 P) ∧ w' = w := by
  go_enter Try.func32, Try.ntmps32
  go_wp2
  go_ret
  exact ⟨rfl, rfl⟩

set_option maxRecDepth 100000 in
set_option maxHeartbeats 1000000 in
theorem fnChunkSizes_walk (x p : Int) (W : World) (hx : (Lit.int .u64 x).wf = true) (hp : (Lit.int .u8 p).wf = true) :
    Calls Try.prog 12 #[.int .u64 x, .int .u8 p] W fun e W' => e = .returned (.bool true) ∧ Below W.heap.size W W' := by
  obtain ⟨x0, x1⟩ := wf_u64_lt hx
  obtain ⟨p0, p1⟩ := wf_u8_byte hp
  obtain ⟨k, hk⟩ : ∃ k : Nat, 6 + p % 17 = (k : Int) := ⟨(6 + p % 17).toNat, by omega⟩
  have hk6 : 6 ≤ k := by omega
  have hk22 : k ≤ 22 := by omega
  clear hx hp
  obtain ⟨P, hP, hP0, hP1, hu, hw⟩ := two_named k hk22
  have ec : cb P = (k : Int) - 6 := by rw [← hP, cb_pow k hk6 hk22]
  have C1 : ∀ w, Calls Try.prog 31 #[.int .u64 P] w (ByteIs ((k : Int) - 6) w) := fun w => by rw [← ec]; exact implChunkByte_any P w (by omega) (by omega)
  have C2 := fun w => chunkSize_any ((k : Int) - 6) k P w (by omega) (by omega) (by omega) hk22 hP0 hP1 hu
  have D1 := Lib.hid C1
  have D2 := Lib.hid C2
  have hle := cb_le x
  have hge : 0 ≤ cb x := by unfold cb; split <;> (try split) <;> (try split) <;> omega
  have hbig : 4194304 ≤ x → cb x = 16 := fun h => cb_big x h x1
  have D3 := Lib.hid (fun w => implChunkByte_any x w x0 x1)
  generalize cb x = r at *
  clear hP ec C1 C2
  by_cases hb : x < 4194304
  · clear hbig x1
    go_enter Try.func12, Try.ntmps12
    go_wp2_with fail
    refine (D1.out _).mono ?_
    rintro e w1 ⟨rfl, hc1⟩
    go_wp2_with fail
    refine (D2.out _).mono ?_
    rintro e w2 ⟨rfl, rfl⟩
    go_wp2_with fail
    refine (D3.out _).mono ?_
    rintro e w3 ⟨rfl, hc3⟩
    go_wp2_with fail
    go_ret
    exact ⟨rfl, (hc1.trans hc3 (fun _ _ e => e)).below (Nat.le_refl _) (fun _ _ e => e)⟩
  · obtain rfl := hbig (by omega)
    clear x1
    go_enter Try.func12, Try.ntmps12
    go_wp2_with fail
    refine (D1.out _).mono ?_
    rintro e w1 ⟨rfl, hc1⟩
    go_wp2_with fail
    refine (D2.out _).mono ?_
    rintro e w2 ⟨rfl, rfl⟩
    go_wp2_with fail
    refine (D3.out _).mono ?_
    rintro e w3 ⟨rfl, hc3⟩
    go_wp2_with fail
    refine (D3.out _).mono ?_
    rintro e w4 ⟨rfl, hc4⟩
    go_wp2_with fail
    go_ret
    exact ⟨rfl, ((hc1.trans hc3 (fun _ _ e => e)).trans hc4 (fun _ _ e => e)).below (Nat.le_refl _) (fun _ _ e => e)⟩
end Go.Proofs.Ytmakkjkbonnjgaa
