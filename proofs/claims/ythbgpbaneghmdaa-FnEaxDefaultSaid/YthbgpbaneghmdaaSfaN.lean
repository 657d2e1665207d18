/- The contract of byteutil.SliceForAppend on nil. -/
import Derived.Test.YthbgpbaneghmdaaEaxN
set_option linter.unusedVariables false
set_option linter.unusedSimpArgs false
namespace Go.Proofs.Ythbgpbaneghmdaa
open Go.RowKit V
/-- A row of zeros, given twice. -/
def TwoZ (w : World) (m : Nat) (e : Ending) (w' : World) : Prop :=
  ∃ g, e = .returned (.tuple #[.slice (some ⟨g, 0, none⟩) m m, .slice (some ⟨g, 0, none⟩) m m]) ∧ Own w' w.heap.size 5 .u8 (.slice (some ⟨g, 0, none⟩) m m) (List.replicate m 0) ∧ Chg NoB w w'
set_option maxRecDepth 100000 in
set_option maxHeartbeats 2000000 in
theorem sliceForAppend_nil {w : World} {m : Nat} (h0 : 0 < m) (hm : m ≤ 4194304) :
    Calls Try.prog 98 #[.slice none 0 0, .int .i64 m] w (TwoZ w m) := by
  have i1 : ¬ ((0 : Int) ≥ (m : Int)) := by omega
  have i2 : ¬ ((m : Int) ≤ 0) := by omega
  have i3 : IntKind.i64.wrap (m : Int) = (m : Int) := by simp [IntKind.wrap, IntKind.bits, IntKind.signed]; omega
  go_enter Try.func98, Try.ntmps98
  go_wp2_with (first
    | ((with_reducible refine gate (N := 19) rfl ?_); refine wpList_make_k rfl _ 22 rfl 5 .u8 1 Try.underlying22 info8 (by decide) m _ rfl rfl (by omega) ?_
       intro w2 D HD2 ho2 hc2 hz2
       have O2 := As.mk ho2
       have C2 := As.mk hc2
       clear ho2 hc2 hz2)
    | ((with_reducible refine gate (N := 22) rfl ?_); refine wpList_copy_rk (et := 5) rfl _ _ 22 22 rfl w.heap.size 5 .u8 Try.underlying22 size8 D m (List.replicate m 0) ?ho (some ⟨D, 0, none⟩) 0 m m ?h0 ?hd (fun _ => rfl) none [] 0 ?hs Rk.none_ ?_
       (case ho => rw [List.length_replicate]; exact O2.out)
       (case h0 => rw [List.length_replicate]; omega)
       (case hd => rfl)
       (case hs => rfl)
       intro w3 ho3 hg3
       have O3 := As.mk ho3
       have G3 := As.mk hg3
       clear ho3 hg3))
  go_ret2
  have hsp : splice (List.replicate m (0 : Int)) 0 (([] : List Int).take m) = List.replicate m 0 := by simp [splice]
  have ho := O3.out
  rw [hsp, List.length_replicate] at ho
  have hcP : Chg (fun b => b = D) w2 w3 := (Chg.refl _ _).grown G3.out (fun b hb e => by injection e with e; exact e.symm)
  exact ⟨D, rfl, ho, C2.out.trans hcP (fun b hb e => by have h1 : b = D := e; have := HD2.out; omega)⟩
end Go.Proofs.Ythbgpbaneghmdaa
