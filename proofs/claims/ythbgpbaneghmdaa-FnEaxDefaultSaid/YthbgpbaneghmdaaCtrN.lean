/- Counter mode: the contract of NewCTR. -/
import Derived.Test.YthbgpbaneghmdaaCtrX
import Derived.Deep.RegionLaw
set_option linter.unusedVariables false
set_option linter.unusedSimpArgs false
namespace Go.Proofs.Ythbgpbaneghmdaa
open Go.RowKit V
theorem ta_ctr (a : Addr) (w : World) : (Instr.typeAssert (.iface 90 (.pointer (some a))) 55 162 true).run Try.prog w = .ok (.tuple #[.nilIface, .bool false]) w :=
  run_typeAssert_lacksB Try.underlying162 (by kernel_rfl) (by kernel_rfl) _ _ w
set_option maxRecDepth 100000 in
theorem mk512 (W : World) : (Instr.makeSlice 22 (.int .i64 0) (.int .i64 512)).run Try.prog W = .ok (.slice (some ⟨W.heap.size, 0, none⟩) 0 512) (W.alloc (.cells (madeCells #[.int .u8 0] 512) 5)) := by kernel_rfl
/-- A fresh counter. -/
def NewCtr (w : World) (B : Nat) (iv : List Int) (e : Ending) (w' : World) : Prop :=
  ∃ X C cc O, e = .returned (.iface 165 (.pointer (some ⟨X, 0, none⟩))) ∧ Ctr w' w.heap.size B X C cc O 0 iv (List.replicate 512 0) ∧ w.heap.size ≤ X ∧ w.heap.size ≤ C ∧ w.heap.size ≤ O ∧ Chg NoB w w'
theorem newCtr_of {w w4 : World} {B C cc O X : Nat} {iv : List Int} (hO : Own w4 w.heap.size 5 .u8 (.slice (some ⟨O, 0, none⟩) 512 512) (List.replicate 512 0)) (hC : Own w4 w.heap.size 5 .u8 (.slice (some ⟨C, 0, none⟩) 16 cc) iv) (hco : C ≠ O) (hn : iv.length = 16) (bi : Byt iv) (hc : Chg NoB w w4) (hX : X = w4.heap.size) :
    NewCtr w B iv (.returned (.iface 165 (.pointer (some ⟨X, 0, none⟩)))) (w4.alloc (.cells #[cphV B, .slice (some ⟨C, 0, none⟩) 16 cc, .slice (some ⟨O, 0, none⟩) 0 512, .int .i64 0] 167)) := by
  subst hX
  have hal := (Chg.refl NoB w4).alloc (.cells #[cphV B, .slice (some ⟨C, 0, none⟩) 16 cc, .slice (some ⟨O, 0, none⟩) 0 512, .int .i64 0] 167)
  have b1 := own_block_lt hC C rfl
  have b2 := own_block_lt hO O rfl
  exact ⟨w4.heap.size, C, cc, O, rfl, ⟨Blk.new w4 _ (ctrCells B C cc O 0 0), own_keep hC hal, own_keep hO hal, by omega, by omega, hco, hn, bi⟩, hc.size, b1.1, b2.1, hc.trans hal (fun _ _ e => e)⟩
set_option maxRecDepth 100000 in
set_option maxHeartbeats 2000000 in
theorem newCtr_any {w : World} {lo hi B : Nat} {perm sub mask : List Int} (hC : Cph w lo hi B perm sub mask) (hm : mask.length = 16) (a : Addr) (c : Nat) (iv : List Int) (hn : iv.length = 16) (bi : Byt iv) (rx : Rb w (some a) iv) :
    Calls Try.prog 99 #[cphV B, .slice (some a) 16 c] w (NewCtr w B iv) := by
  have CB := As.mk hC
  have HM := As.mk hm
  have HN := As.mk hn
  have RX := As.mk rx
  have HB := As.mk bi
  have na := na_bs
  have me := me_bs
  have ta := ta_ctr
  have mk := mk512
  clear hC hm hn rx bi
  go_enter Try.func99, Try.ntmps99
  go_wp2_with fail
  refine (blockSize_any CB.out HM.out).mono ?_
  rintro e1 w1 ⟨rfl, rfl⟩
  go_wp2_with fail
  refine (blockSize_any CB.out HM.out).mono ?_
  rintro e2 w2 ⟨rfl, rfl⟩
  go_wp2_with fail
  go_region_law (first
  | (go_simp
     with_reducible refine (clone_any a 16 c iv _ HN.out.symm (RX.out.keep (by repeat (first | exact Chg.refl _ _ | (with_reducible apply Chg.drew) | (with_reducible apply Chg.alloc)))) (by omega) (by omega)).mono ?_
     rintro e3 w3 ⟨v3, rfl, ho3, hc3⟩
     obtain ⟨C, cc, rfl, hcc, hv1, hv2⟩ := own_form_pos ho3 (by have := HN.out; omega)
     rw [HN.out] at ho3 hcc ⊢
     have O3 := As.mk ho3
     have C3 := As.mk hc3
     have HV := As.mk (And.intro hv1 hv2)
     clear ho3 hc3 hv1 hv2))
  all_goals
    go_wp2_with fail
    go_ret
    first
    | exact newCtr_of (w4 := w3.alloc (.cells (madeCells #[.int .u8 0] 512) 5)) (own_made w3 w2.heap.size 5 .u8 512 C3.out.size (by decide)) (own_keep O3.out ((Chg.refl NoB w3).alloc _)) (Nat.ne_of_lt HV.out.2) HN.out HB.out ((((Chg.refl NoB w2).drew).trans C3.out (fun _ _ e => e)).alloc _) (Array.size_push _).symm
    | exact newCtr_of (w4 := w3) (own_keep (own_made w2.drew w2.heap.size 5 .u8 512 (Nat.le_refl _) (by decide)) C3.out) (own_lower O3.out (by simp)) (by have h := HV.out.1; simp at h; omega) HN.out HB.out ((((Chg.refl NoB w2).drew).alloc _).trans C3.out (fun _ _ e => e)) rfl
end Go.Proofs.Ythbgpbaneghmdaa
