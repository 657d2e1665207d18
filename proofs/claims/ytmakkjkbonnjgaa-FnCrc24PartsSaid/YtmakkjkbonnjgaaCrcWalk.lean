/- The walk of FnCrc24Parts, for slices that read as lists. -/
import Derived.Test.YtmakkjkbonnjgaaPureFnCrc24Parts
import Derived.Test.YtmakkjkbonnjgaaV
namespace Go.Proofs.Ytmakkjkbonnjgaa.V
open Go.RowKit
theorem Rk.reads {k : IntKind} {w : World} {A : Option Addr} {xs : List Int} (h : Rk k w A xs) : YtmakkjkbonnjgaaW.PrintWords.ReadsInt w k A xs.length xs :=
  ⟨rfl, h.1, fun hn => by obtain ⟨ad, e, _, hc⟩ := h.2 hn; exact ⟨ad, e, hc⟩⟩
theorem wf_byt {xs : List Int} (h : Byt xs) : ∀ x ∈ xs, (Lit.int .u8 x).wf = true := fun x hx => WalkArith.wf_u8 (h x hx)
end Go.Proofs.Ytmakkjkbonnjgaa.V
namespace Go.Proofs.Ytmakkjkbonnjgaa
open Go.RowKit V Go.Proofs.YtmakkjkbonnjgaaW.PrintWords
theorem crc_walk (a0 : Int) (A1 : Option Addr) (c1 : Nat) (xs1 : List Int) (A2 : Option Addr) (c2 : Nat) (xs2 : List Int) (W : World) (w0 : (Lit.int .u32 a0).wf = true)
    (hx1 : Rk .u8 W A1 xs1) (hc1 : xs1.length ≤ c1) (hb1 : Byt xs1) (hl1 : xs1.length ≤ 140737488351232) (hx2 : Rk .u8 W A2 xs2) (hc2 : xs2.length ≤ c2) (hb2 : Byt xs2) (hl2 : xs2.length ≤ 140737488351232) :
    Calls Try.prog 4 #[.int .u32 a0, .slice A1 xs1.length c1, .slice A2 xs2.length c2] W fun e W' => e = .returned (.bool true) ∧ Below W.heap.size W W' := by
  obtain ⟨k, h⟩ := Pure.FnCrc24Parts a0 xs1 xs2 w0 (by simp only [maxLen]; omega) (by omega) (wf_byt hb1) (by simp only [maxLen]; omega) (by omega) (wf_byt hb2)
  exact PFnCrc24Parts.laws_FnCrc24Parts.calls k a0 _ _ xs1 _ _ xs2 true W (Kd.C_of_reads (d := (0 : Int)) (h1 := fun _ => rfl) hx1.reads) hc1 (Kd.C_of_reads (d := (0 : Int)) (h1 := fun _ => rfl) hx2.reads) hc2 h
end Go.Proofs.Ytmakkjkbonnjgaa
