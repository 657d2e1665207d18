/- impl.bit and impl.BitOn over small numbers. -/
import Derived.Test.YthnebljgnmggaaaDoorBgP
set_option linter.unusedVariables false
set_option linter.unusedSimpArgs false
namespace Go.Proofs.YthnebljgnmggaaaDoor
open Go.RowKit V
/-- A curve that has been made. -/
def BitC (w : World) (p b : Nat) (e : Ending) (w' : World) : Prop :=
  ∃ (C P B : Nat) (t : TypeId) (cs : List Value) (FP FB : Nat → Prop), e = .returned (.pointer (some ⟨C, 0, none⟩)) ∧ Blk w' C t cs ∧ cs[1]? = some (.pointer (some ⟨P, 0, none⟩)) ∧ cs[3]? = some (.pointer (some ⟨B, 0, none⟩)) ∧ It w' 0 P FP p ∧ It w' 0 B FB b ∧ Chg NoB w w'
set_option maxRecDepth 100000 in
set_option maxHeartbeats 1000000 in
theorem bit_any {w : World} {p b : Nat} (hp : p < 4294967296) (hb : b < 4294967296) :
    Calls Tryd.prog 10 #[.int .i64 p, .int .i64 b] w (BitC w p b) := by
  have HP := As.mk (And.intro hp hb)
  clear hp hb
  go_enter Tryd.func10, Tryd.ntmps10
  go_wp2_with fail
  refine (num_any (Nat.zero_le _) HP.out.1).mono ?_
  rintro e1 w1 ⟨P, FP, rfl, hI1, hc1, _⟩
  have O1 := As.mk (And.intro hI1 hc1)
  clear hI1 hc1
  go_wp2_with fail
  refine (num_any (Nat.zero_le _) HP.out.2).mono ?_
  rintro e2 w2 ⟨B, FB, rfl, hI2, hc2, _⟩
  have O2 := As.mk (And.intro hI2 hc2)
  clear hI2 hc2
  go_wp2_with fail
  go_ret
  exact ⟨w2.heap.size, P, B, _, _, FP, FB, rfl, Blk.new w2 _ _, rfl, rfl, O1.out.1.keep (O2.out.2.alloc _), O2.out.1.keep ((Chg.refl _ _).alloc _), O1.out.2.trans (O2.out.2.alloc _) (fun _ _ e => e)⟩
set_option maxRecDepth 100000 in
set_option maxHeartbeats 1000000 in
theorem BitOn_any {w : World} {p b x y : Nat} (hp2 : 2 ≤ p) (hl : p < 65536 ∧ b < 65536 ∧ x < 65536 ∧ y < 65536) :
    Calls Tryd.prog 5 #[.int .i64 p, .int .i64 b, .int .i64 x, .int .i64 y] w fun e w' => e = .returned (.tuple #[.bool (decide ((x * x * x + b) % p = y * y % p)), .bool true]) ∧ Chg NoB w w' := by
  have HL := As.mk (And.intro hp2 hl)
  have e1 : ¬ (p : Int) < 1 := by omega
  obtain ⟨r, hr⟩ : ∃ r, r = decide ((x * x * x + b) % p = y * y % p) := ⟨_, rfl⟩
  have H := fun (w' : World) (C P B X Y t : Nat) (cs : List Value) (FP FB FX FY : Nat → Prop) h1 h2 h3 h4 h5 h6 h7 => IsOnCurve_any (w := w') (C := C) (P := P) (B := B) (X := X) (Y := Y) (t := t) (cs := cs) (FP := FP) (FB := FB) (FX := FX) (FY := FY) (p := p) (b := b) (x := x) (y := y) h1 h2 h3 h4 h5 h6 h7 hp2 hl
  rw [← hr] at H ⊢
  have H := As.mk H
  clear hp2 hl hr
  go_enter Tryd.func5, Tryd.ntmps5
  go_wp2_with fail
  refine (bit_any (by have := HL.out; omega) (by have := HL.out; omega)).mono ?_
  rintro e1 w1 ⟨C, P, B, t, cs, FP, FB, rfl, hB, hc1, hc3, hIp, hIb, hch⟩
  have O1 := As.mk (And.intro hB (And.intro hc1 (And.intro hc3 (And.intro hIp (And.intro hIb hch)))))
  clear hB hc1 hc3 hIp hIb hch
  go_wp2_with fail
  refine (num_any (base := 0) (Nat.zero_le _) (by have := HL.out; omega : x < 4294967296)).mono ?_
  rintro e2 w2 ⟨X, FX, rfl, hI2, hc2, _⟩
  have O2 := As.mk (And.intro hI2 hc2)
  clear hI2 hc2
  go_wp2_with fail
  refine (num_any (base := 0) (Nat.zero_le _) (by have := HL.out; omega : y < 4294967296)).mono ?_
  rintro e3 w3 ⟨Y, FY, rfl, hI3, hc3, _⟩
  have O3 := As.mk (And.intro hI3 (And.intro hc3 (O2.out.2.trans hc3 (fun _ _ e => e))))
  clear hI3 hc3
  go_wp2_with fail
  refine (H.out w3 C P B X Y t cs FP FB FX FY (O1.out.1.chg O3.out.2.2 (fun e => e)) O1.out.2.1 O1.out.2.2.1 (O1.out.2.2.2.1.keep O3.out.2.2) (O1.out.2.2.2.2.1.keep O3.out.2.2) (O2.out.1.keep O3.out.2.1) O3.out.1).mono ?_
  rintro e4 w4 ⟨rfl, h⟩
  have O4 := As.mk ((O1.out.2.2.2.2.2.trans O3.out.2.2 (fun _ _ e => e)).trans h (fun _ _ e => e))
  clear h
  go_wp2_with fail
  refine bodyPost_ret (results_tmp2 rfl _ _ _) rfl ?_
  exact ⟨rfl, O4.out⟩
end Go.Proofs.YthnebljgnmggaaaDoor
