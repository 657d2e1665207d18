/- The contracts of bytes.Clone, cipher.newCBC, NewCBCEncrypter. -/
import Derived.Test.YthbgpbaneghmdaaEnc
import Derived.Stop.Asserts
set_option linter.unusedVariables false
set_option linter.unusedSimpArgs false
namespace Go.Proofs.Ythbgpbaneghmdaa
open Go.RowKit V
theorem na_bs (a : Addr) (w : World) : (nilAhead 285 90 (.pointer (some a)) "BlockSize").run Try.prog w = .ok (some false) w := by kernel_rfl
theorem me_bs (a : Addr) (w : World) : (method 285 90 (.pointer (some a)) "BlockSize").run Try.prog w = .ok (103, .pointer (some a)) w := by kernel_rfl
theorem na_en (a : Addr) (w : World) : (nilAhead 285 90 (.pointer (some a)) "Encrypt").run Try.prog w = .ok (some false) w := by kernel_rfl
theorem me_en (a : Addr) (w : World) : (method 285 90 (.pointer (some a)) "Encrypt").run Try.prog w = .ok (105, .pointer (some a)) w := by kernel_rfl
theorem nilEq_some (a : Addr) (n c : Nat) (w : World) : (binOp .eql 22 (.slice (some a) n c) (.slice none 0 0)).run Try.prog w = .ok (.bool false) w := by kernel_rfl
set_option maxHeartbeats 1000000 in
theorem clone_any (a : Addr) (n c : Nat) (xs : List Int) (w : World) (hn : n = xs.length) (rx : Rb w (some a) xs) (h1 : 1 ≤ n) (hl : n ≤ 140737488351232) :
    Calls Try.prog 74 #[.slice (some a) n c] w (Gives NoB w xs) := by
  have HN := As.mk hn
  have RX := As.mk rx
  have nq := nilEq_some a n c
  clear hn rx
  go_enter Try.func74, Try.ntmps74
  go_wp2_with (at_builtin; refine wpList_append_e rfl _ _ 22 rfl 5 .u8 1 Try.underlying22 info8 (by decide) _ w.heap.size xs (some a) n c rfl rfl HN.out (RX.out.alloc _) (by simp) (by have := HN.out; omega) ?_; intro v1 w1 ho1 hc1; have HO1 := As.mk ho1; have HC1 := As.mk (((Chg.refl NoB w).alloc (.cells #[] 5)).trans hc1 (fun _ _ e => e)); clear ho1 hc1)
  go_ret
  exact ⟨v1, rfl, ow_own HO1.out (by have := HN.out; omega), HC1.out⟩
/-- A CBC in block X: its cipher, its block's size, its vector in block V. -/
def Cbc (w : World) (X V base ic n B : Nat) (ivs : List Int) : Prop :=
  (∃ T tc, Blk w X 142 [cphV B, .int .i64 n, .slice (some ⟨V, 0, none⟩) n ic, .slice (some ⟨T, 0, none⟩) n tc]) ∧ Own w base 5 .u8 (.slice (some ⟨V, 0, none⟩) n ic) ivs ∧ X ≠ V ∧ n ≤ ic
def CbcOf (w : World) (n B : Nat) (ivs : List Int) (mk : Nat → Value) (e : Ending) (w' : World) : Prop :=
  ∃ X V ic, e = .returned (mk X) ∧ Cbc w' X V w.heap.size ic n B ivs ∧ w.heap.size ≤ X ∧ w.heap.size ≤ V ∧ X < w'.heap.size ∧ V < w'.heap.size ∧ Chg NoB w w'
set_option maxRecDepth 100000 in
set_option maxHeartbeats 2000000 in
theorem newCBC_any {w : World} {lo hi B n : Nat} {perm sub mask : List Int} (hC : Cph w lo hi B perm sub mask) (hm : mask.length = n) (a : Addr) (c : Nat) (ivs : List Int) (hn : n = ivs.length) (rx : Rb w (some a) ivs) (h1 : 1 ≤ n) (h2 : n ≤ 32) :
    Calls Try.prog 72 #[cphV B, .slice (some a) n c] w (CbcOf w n B ivs fun X => .pointer (some ⟨X, 0, none⟩)) := by
  have CB := As.mk hC
  have HM := As.mk hm
  have HN := As.mk hn
  have RX := As.mk rx
  have na := na_bs
  have me := me_bs
  clear hC hm hn rx
  go_enter Try.func72, Try.ntmps72
  go_wp2_with fail
  refine (blockSize_any CB.out HM.out).mono ?_
  rintro e1 w1 ⟨rfl, rfl⟩
  go_wp2_with fail
  refine (clone_any a n c ivs w1 HN.out RX.out h1 (by omega)).mono ?_
  rintro e2 w2 ⟨v2, rfl, ho2, hc2⟩
  obtain ⟨V, ic, rfl, hic, hv1, hv2⟩ := own_form_pos ho2 (by have := HN.out; omega)
  rw [← HN.out] at ho2 hic ⊢
  have O2 := As.mk ho2
  have C2 := As.mk hc2
  have CB2 := As.mk (CB.out.keep hc2)
  have HV := As.mk (And.intro hv1 hv2)
  clear ho2 hc2 hv1 hv2
  go_wp2_with fail
  refine (blockSize_any CB2.out HM.out).mono ?_
  rintro e3 w3 ⟨rfl, rfl⟩
  go_wp2_with ((with_reducible refine gate (N := 12) rfl ?_); refine wpList_make_k rfl _ 22 rfl 5 .u8 1 Try.underlying22 info8 (by decide) n _ rfl rfl (by omega) ?_
               intro w4 g4 HG4 ho4 hc4 hz4
               have O4 := As.mk (own_keep O2.out hc4)
               have C4 := As.mk (C2.out.trans hc4 (fun _ _ e => e))
               have Z4 := As.mk hc4.size
               clear ho4 hc4 hz4)
  go_ret
  have hV := HV.out
  have hsz := Z4.out
  have hal : Chg NoB w4 (w4.alloc (.cells #[cphV B, .int .i64 n, .slice (some ⟨V, 0, none⟩) n ic, .slice (some ⟨g4, 0, none⟩) n n] 142)) := (Chg.refl NoB w4).alloc _
  have hz : (w4.alloc (.cells #[cphV B, .int .i64 n, .slice (some ⟨V, 0, none⟩) n ic, .slice (some ⟨g4, 0, none⟩) n n] 142)).heap.size = w4.heap.size + 1 := Array.size_push _
  refine ⟨w4.heap.size, V, ic, rfl, ⟨⟨g4, n, ?_⟩, ?_, by omega, hic⟩, C4.out.size, hV.1, ?_, ?_, C4.out.trans hal (fun _ _ e => e)⟩
  · exact Blk.new w4 _ [cphV B, .int .i64 n, .slice (some ⟨V, 0, none⟩) n ic, .slice (some ⟨g4, 0, none⟩) n n]
  · exact own_keep O4.out hal
  · exact (by rw [hz]; omega : w4.heap.size < (w4.alloc (.cells #[cphV B, .int .i64 n, .slice (some ⟨V, 0, none⟩) n ic, .slice (some ⟨g4, 0, none⟩) n n] 142)).heap.size)
  · exact (by rw [hz]; omega : V < (w4.alloc (.cells #[cphV B, .int .i64 n, .slice (some ⟨V, 0, none⟩) n ic, .slice (some ⟨g4, 0, none⟩) n n] 142)).heap.size)
theorem ta_cbc (a : Addr) (w : World) : (Instr.typeAssert (.iface 90 (.pointer (some a))) 55 132 true).run Try.prog w = .ok (.tuple #[.nilIface, .bool false]) w :=
  run_typeAssert_lacksB (want := #[("NewCBCEncrypter", 134)]) Try.underlying132 (by kernel_rfl) (by kernel_rfl) _ _ w
set_option maxRecDepth 100000 in
set_option maxHeartbeats 2000000 in
theorem newCbcEnc_any {w : World} {lo hi B n : Nat} {perm sub mask : List Int} (hC : Cph w lo hi B perm sub mask) (hm : mask.length = n) (a : Addr) (c : Nat) (ivs : List Int) (hn : n = ivs.length) (rx : Rb w (some a) ivs) (h1 : 1 ≤ n) (h2 : n ≤ 32) :
    Calls Try.prog 68 #[cphV B, .slice (some a) n c] w (CbcOf w n B ivs fun X => .iface 135 (.pointer (some ⟨X, 0, none⟩))) := by
  have CB := As.mk hC
  have HM := As.mk hm
  have HN := As.mk hn
  have RX := As.mk rx
  have na := na_bs
  have me := me_bs
  have ta := ta_cbc
  clear hC hm hn rx
  go_enter Try.func68, Try.ntmps68
  go_wp2_with fail
  refine (blockSize_any CB.out HM.out).mono ?_
  rintro e1 w1 ⟨rfl, rfl⟩
  go_wp2_with fail
  refine (newCBC_any CB.out HM.out a c ivs HN.out RX.out h1 h2).mono ?_
  rintro e2 w2 ⟨X, V, ic, rfl, h3, h4, h5, h6, h7, h8⟩
  have H := As.mk (And.intro h3 (And.intro h4 (And.intro h5 (And.intro h6 (And.intro h7 h8)))))
  clear h3 h4 h5 h6 h7 h8
  go_wp2_with fail
  go_ret
  exact ⟨X, V, ic, rfl, H.out.1, H.out.2.1, H.out.2.2.1, H.out.2.2.2.1, H.out.2.2.2.2.1, H.out.2.2.2.2.2⟩
end Go.Proofs.Ythbgpbaneghmdaa
