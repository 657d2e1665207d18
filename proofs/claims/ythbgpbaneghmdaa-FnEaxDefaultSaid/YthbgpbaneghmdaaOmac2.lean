/- The contract of (*eax).omac. -/
import Derived.Test.YthbgpbaneghmdaaOmac1
import Derived.Deep.RegionHeld3
import Derived.Deep.DeepCutAuto
set_option linter.unusedVariables false
set_option linter.unusedSimpArgs false
namespace Go.Proofs.Ythbgpbaneghmdaa
open Go.RowKit V
section
variable (perm sub mask : List Int)
def omac0 : List Int := encL perm sub mask (List.replicate 16 0)
def omacPad (xs : List Int) : List Int := padL xs (dbl (omac0 perm sub mask)) (dbl (dbl (omac0 perm sub mask)))
def omacL (xs : List Int) : List Int := cbcSt (encL perm sub mask) 16 (omacPad perm sub mask xs) (List.replicate 16 0) ((xs.length + 15) / 16)
end
/-- Sixteen bytes of new memory. -/
def GivesR (S : Nat → Prop) (w : World) (xs : List Int) (e : Ending) (w' : World) : Prop :=
  ∃ ad c, e = .returned (.slice (some ad) 16 c) ∧ 16 ≤ c ∧ w.heap.size ≤ ad.block ∧ ad.block < w'.heap.size ∧ Rb w' (some ad) xs ∧ Chg S w w'
theorem na_cb (a : Addr) (w : World) : (nilAhead 285 135 (.pointer (some a)) "CryptBlocks").run Try.prog w = .ok (some false) w := by kernel_rfl
theorem me_cb (a : Addr) (w : World) : (method 285 135 (.pointer (some a)) "CryptBlocks").run Try.prog w = .ok (123, .pointer (some a)) w := by kernel_rfl
theorem splice_whole {xs ys : List Int} (h : ys.length = xs.length) : splice xs 0 ys = ys := by
  unfold splice
  rw [List.take_zero, List.nil_append, Nat.zero_add, h, List.drop_length, List.append_nil]
theorem zeros_byt (n : Nat) : Byt (List.replicate n 0) := fun x h => by rw [List.eq_of_mem_replicate h]; omega
theorem crypt_n {w : World} {lo hi B n X V ic m N D dc base base2 S : Nat} {perm sub mask ivs zs src : List Int} {sc : Nat} (hN : N = m * n) (hC : Cph w lo hi B perm sub mask) (hr : RightB perm sub n) (hm : mask.length = n) (bs : Byt sub) (bm : Byt mask)
    (hX : Cbc w X V base2 ic n B ivs) (hiv : ivs.length = n) (bi : Byt ivs) (HO : Own w base 5 .u8 (.slice (some ⟨D, 0, none⟩) N dc) zs) (hdc : N ≤ dc)
    (rx : Rb w (some ⟨S, 0, none⟩) src) (bx : Byt src) (hsl : src.length = N) (hsc : N ≤ sc) (hl : N ≤ 140737488351232)
    (hDS : S ≠ D) (hDV : V ≠ D) (hDX : X ≠ D) (hDc : D < lo ∨ hi ≤ D) :
    Calls Try.prog 123 #[.pointer (some ⟨X, 0, none⟩), .slice (some ⟨D, 0, none⟩) N dc, .slice (some ⟨S, 0, none⟩) N sc] w fun e w' => e = .returned (.tuple #[]) ∧
      Own w' base 5 .u8 (.slice (some ⟨D, 0, none⟩) N dc) (cbcOut (encL perm sub mask) n src ivs m) ∧ Chg (fun b => b = D ∨ b = V) w w' := by
  subst hN
  exact crypt_any hC hr hm bs bm hX hiv bi HO hdc rx bx hsl hsc hl hDS hDV hDX hDc
theorem cbcOut_last {E : List Int → List Int} {n : Nat} {src iv : List Int} (hE : ∀ x, (E x).length = n) (hi : iv.length = n) (k : Nat) : (cbcOut E n src iv (k + 1)).drop (k * n) = cbcSt E n src iv (k + 1) := by
  have hl := cbcOut_length (src := src) hE hi k
  rw [cbcOut, List.drop_append, List.drop_of_length_le (by omega), List.nil_append, hl, Nat.sub_self, List.drop_zero]
set_option maxRecDepth 100000 in
set_option maxHeartbeats 1000000 in
theorem omac_any {w : World} {lo hi B E base g n c : Nat} {tg nn : Int} {perm sub mask xs : List Int} (hC : Cph w lo hi B perm sub mask) (hr : RightB perm sub 16) (hm : mask.length = 16) (bs : Byt sub) (bm : Byt mask) (hE : Eax w E B tg nn)
    (HO : Own w base 5 .u8 (.slice (some ⟨g, 0, none⟩) n c) xs) (bx : Byt xs) (h1 : 1 ≤ n) (hn : n = xs.length) (hl : n ≤ 8589934592) (hbase : base ≤ w.heap.size) (hg : g < lo ∨ hi ≤ g) (hhi : hi ≤ w.heap.size) :
    Calls Try.prog 57 #[.pointer (some ⟨E, 0, none⟩), .slice (some ⟨g, 0, none⟩) n c] w (GivesR (fun b => b = g) w (omacL perm sub mask xs)) := by
  have CB := As.mk hC
  have HR := As.mk hr
  have HM := As.mk hm
  have HBY := As.mk (And.intro bs (And.intro bm bx))
  have HEX := As.mk hE
  have HOW := As.mk HO
  have HN := As.mk hn
  have HBA := As.mk hbase
  have HG := As.mk (And.intro hg (And.intro hhi (own_blocks HO).2))
  have na := na_bs
  have me := me_bs
  have na2 := na_en
  have me2 := me_en
  have na3 := na_cb
  have me3 := me_cb
  have x0 := hE.cell 0
  simp only [List.getElem?_cons_zero, List.getElem?_cons_succ] at x0
  have HL0 : As ((omac0 perm sub mask).length = 16) := ⟨by unfold omac0; rw [encL_length]; exact hm⟩
  have HB0 : As (Byt (omac0 perm sub mask)) := ⟨encL_byt _ bs bm⟩
  clear hC hr hm bs bm bx hE HO hn hbase hg hhi
  go_enter Try.func57, Try.ntmps57
  go_wp2_with fail
  refine (blockSize_any CB.out HM.out).mono ?_
  rintro e1 w1 ⟨rfl, rfl⟩
  go_wp2_with ((with_reducible refine gate (N := 18) rfl ?_); refine wpList_make_k rfl _ 22 rfl 5 .u8 1 Try.underlying22 info8 (by decide) 16 _ rfl rfl (by omega) ?_
               intro w2 g2 HG2 ho2 hc2 hz2
               have O2 := As.mk ho2
               have C2 := As.mk hc2
               have x2 := (HEX.out.chg hc2 (fun e => e)).cell 0
               simp only [List.getElem?_cons_zero, List.getElem?_cons_succ] at x2
               clear ho2 hc2 hz2 x0)
  refine (encrypt_any (w := w2) (off := 0) (xs := List.replicate 16 0) (CB.out.keep C2.out) HR.out HM.out HBY.out.1 HBY.out.2.1 O2.out (by omega) (by omega) (own_reads O2.out) (zeros_byt 16) (by simp) (by omega)).mono ?_
  rintro e3 w3 ⟨rfl, ho3, hc3⟩
  rw [splice_whole (by rw [encL_length, HM.out, List.length_replicate])] at ho3
  have O3 : As (Own w3 w1.heap.size 5 .u8 (.slice (some ⟨g2, 0, none⟩) 16 16) (omac0 perm sub mask)) := ⟨ho3⟩
  have C3 : As (Chg NoB w1 w3) := ⟨C2.out.trans hc3 (fun b hb e => by have := HG2.out; omega)⟩
  clear ho3 hc3 x2 O2
  go_wp2_with fail
  refine (gfn_any (some ⟨g2, 0, none⟩) 16 (omac0 perm sub mask) w3 HL0.out (own_reads O3.out) HB0.out).mono ?_
  rintro e4 w4 ⟨v4, rfl, ho4, hc4⟩
  obtain ⟨g4, c4, rfl, _, hg4, hg4'⟩ := own_form_pos ho4 (by rw [dbl_length]; omega)
  rw [dbl_length] at ho4 ⊢
  have O4 := As.mk ho4
  have C4 := As.mk (C3.out.trans hc4 (fun _ _ e => e.elim))
  clear ho4 hc4
  go_wp2_with fail
  refine (gfn_any (some ⟨g4, 0, none⟩) c4 (dbl (omac0 perm sub mask)) w4 (dbl_length _) (own_reads O4.out) (dbl_byt _)).mono ?_
  rintro e5 w5 ⟨v5, rfl, ho5, hc5⟩
  obtain ⟨g5, c5, rfl, _, hg5, hg5'⟩ := own_form_pos ho5 (by rw [dbl_length]; omega)
  rw [dbl_length] at ho5 ⊢
  have O5 := As.mk ho5
  have C5 := As.mk (C4.out.trans hc5 (fun _ _ e => e.elim))
  have O4b := As.mk (own_keep O4.out hc5)
  have HG45 : As (g < g5 ∧ w1.heap.size ≤ w5.heap.size) := ⟨by have h1 := HG.out.2.2; have h2 := C4.out.size; omega, C5.out.size⟩
  clear ho5 hc5 hg4 hg4' hg5 hg5' O4
  have x5 := (HEX.out.chg C5.out (fun e => e)).cell 0
  simp only [List.getElem?_cons_zero, List.getElem?_cons_succ] at x5
  have hmk : ∀ W : World, (Instr.makeSlice 22 (.int .i64 16) (.int .i64 16)).run Try.prog W = .ok (.slice (some ⟨W.heap.size, 0, none⟩) 16 16) (W.alloc (.cells (madeCells #[.int .u8 0] 16) 5)) := run_make_k (P := Try.prog) 22 5 .u8 1 Try.underlying22 info8 (by decide) 16 (by omega)
  have HB : As (Chg NoB w5 w5) := ⟨Chg.refl _ _⟩
  go_wp2_with fail
  have KQ : As (∀ w', Chg NoB w5 w' → w'.cell? ⟨E, 0, none⟩ = some (cphV B)) := ⟨fun w' h => ((HEX.out.chg C5.out (fun e => e)).chg h (fun e => e)).cell 0⟩
  go_region_held3 (fun w' => w'.cell? ⟨E, 0, none⟩ = some (cphV B)) (exact KQ.out _ (by repeat (first | (with_reducible exact HB.out) | (with_reducible apply Chg.drew) | (with_reducible apply Chg.alloc)))) (first
    | (go_simp
       refine (newCbcEnc_any (CB.out.keep (Chg.trans (S' := NoB) C5.out ?c1 (fun _ _ e => e))) HM.out _ 16 (List.replicate 16 0) (by simp) ?rr (by omega) (by omega)).mono ?_
       case c1 => exact (by repeat (first | (with_reducible exact HB.out) | (with_reducible apply Chg.drew) | (with_reducible apply Chg.alloc)))
       case rr => first | exact own_reads (own_made _ 0 _ _ 16 (Nat.zero_le _) (by simp [maxLen])) | exact Rk.drew (own_reads (own_made _ 0 _ _ 16 (Nat.zero_le _) (by simp [maxLen])))
       rintro e6 w6 ⟨X, V, ic, rfl, h3, h4, h5, h6, h7, h8⟩
       have HC6 : As (Cbc w6 X V 0 ic 16 B (List.replicate 16 0)) := ⟨⟨h3.1, own_lower h3.2.1 (Nat.zero_le _), h3.2.2⟩⟩
       have HX6 : As (w5.heap.size ≤ X ∧ w5.heap.size ≤ V) := ⟨⟨Nat.le_trans (Chg.size (S := NoB) (by repeat (first | (with_reducible exact HB.out) | (with_reducible apply Chg.drew) | (with_reducible apply Chg.alloc)))) h4, Nat.le_trans (Chg.size (S := NoB) (by repeat (first | (with_reducible exact HB.out) | (with_reducible apply Chg.drew) | (with_reducible apply Chg.alloc)))) h5⟩⟩
       have C6 : As (Chg NoB w5 w6) := ⟨Chg.trans (by repeat (first | (with_reducible exact HB.out) | (with_reducible apply Chg.drew) | (with_reducible apply Chg.alloc))) h8 (fun _ _ e => e)⟩
       have L6 : As (X < w6.heap.size ∧ V < w6.heap.size) := ⟨h6, h7⟩
       have HB6 := C6
       clear h3 h4 h5 h6 h7 h8 HB
       have HB := HB6
       clear HB6))
  all_goals
    have CB6 := As.mk (CB.out.keep (Chg.trans (S' := NoB) C5.out C6.out (fun _ _ e => e)))
    have OW6 := As.mk (own_keep HOW.out (Chg.trans (S' := NoB) C5.out C6.out (fun _ _ e => e)))
    have EX6 := As.mk (HEX.out.chg (Chg.trans (S' := NoB) C5.out C6.out (fun _ _ e => e)) (fun e => e))
    have O46 := As.mk (own_keep O4b.out C6.out)
    have O56 := As.mk (own_keep O5.out C6.out)
    have Z6 : As (w1.heap.size ≤ w6.heap.size) := ⟨Nat.le_trans C5.out.size C6.out.size⟩
    obtain ⟨k, hk⟩ : ∃ k, (n + 15) / 16 = k + 1 := ⟨(n + 15) / 16 - 1, by omega⟩
    obtain ⟨N, hN⟩ : ∃ N, N = (k + 1) * 16 := ⟨_, rfl⟩
    have HPL : As ((omacPad perm sub mask xs).length = N) := ⟨by unfold omacPad; rw [padL_length (dbl_length _) (dbl_length _), ← HN.out, hk, hN]⟩
    have HPB : As (Byt (omacPad perm sub mask xs)) := ⟨padL_byt HBY.out.2.2 (dbl_byt _) (dbl_byt _)⟩
    have HK := As.mk hk
    have HNN := As.mk hN
    have hN16 : 16 ≤ N := by omega
    have hNb : N ≤ 8589934610 := by omega
    clear hk hN O4b O5 x5 hmk KQ
    go_wp2_with fail
    refine (pad_any (w := w6) CB6.out HM.out EX6.out OW6.out HBY.out.2.2 h1 HN.out hl (Nat.le_trans HBA.out Z6.out) ⟨g4, 0, none⟩ ⟨g5, 0, none⟩ c4 c5 (own_reads O46.out) (own_reads O56.out) (dbl_length _) (dbl_length _) (dbl_byt _) (dbl_byt _) (fun e => by have := HG45.out.1; have e2 : g5 = g := e; omega)).mono ?_
    rintro e7 w7 ⟨v7, rfl, ho7, hc7⟩
    have ho7' : Own w7 w6.heap.size 5 .u8 v7 (omacPad perm sub mask xs) := ho7
    obtain ⟨S, c7, rfl, hc7', hS1, hS2⟩ := own_form_pos ho7' (by rw [HPL.out]; omega)
    rw [HPL.out] at ho7' hc7' ⊢
    have O7 := As.mk ho7'
    have C7 := As.mk hc7
    have HS := As.mk (And.intro hS1 (And.intro hS2 hc7'))
    clear ho7 ho7' hc7 hc7' hS1 hS2
    have CB7 := As.mk (CB6.out.chg C7.out (fun b hb1 hb2 e => by have := HG.out.1; omega))
    have hXg : X ≠ g := by have := HG.out.2.2; have := HX6.out.1; have := C5.out.size; omega
    have hVg : V ≠ g := by have := HG.out.2.2; have := HX6.out.2; have := C5.out.size; omega
    have HC7 : As (Cbc w7 X V 0 ic 16 B (List.replicate 16 0)) := ⟨by
      obtain ⟨⟨T, tc, h1⟩, h2, h3, h4⟩ := HC6.out
      exact ⟨⟨T, tc, h1.chg C7.out hXg⟩, own_chg h2 C7.out (fun b hb e => by injection hb with hb; subst hb; exact hVg e), h3, h4⟩⟩
    have HXV := As.mk (And.intro hXg hVg)
    clear hXg hVg HC6
    go_wp2_with ((with_reducible refine gate (N := 44) rfl ?_); refine wpList_make_k rfl _ 22 rfl 5 .u8 1 Try.underlying22 info8 (by decide) N _ rfl rfl (by omega) ?_
                 intro w8 D HD8 ho8 hc8 hz8
                 have O8 := As.mk ho8
                 have C8 := As.mk hc8
                 clear ho8 hc8 hz8)
    have hD1 : w6.heap.size ≤ w7.heap.size := C7.out.size
    have hDD := HD8.out
    refine (crypt_n (w := w8) HNN.out (CB7.out.keep C8.out) HR.out HM.out HBY.out.1 HBY.out.2.1 (X := X) (V := V) (ic := ic) (base2 := 0) (ivs := List.replicate 16 0) ?hcbc (by simp) (zeros_byt 16) O8.out (Nat.le_refl _) (own_reads (own_keep O7.out C8.out)) HPB.out HPL.out HS.out.2.2 (by omega) (by have := HS.out.2.1; omega) (by have := L6.out; omega) (by have := L6.out; omega) (by have := HG.out.2.1; have := Z6.out; omega)).mono ?_
    case hcbc =>
      obtain ⟨⟨T, tc, h1⟩, h2, h3, h4⟩ := HC7.out
      exact ⟨⟨T, tc, h1.chg C8.out (fun e => e)⟩, own_keep h2 C8.out, h3, h4⟩
    rintro e9 w9 ⟨rfl, ho9, hc9⟩
    have O9 := As.mk ho9
    have C9 := As.mk hc9
    obtain ⟨A9, hcut, hA9, hR9⟩ := cut_from (P := Try.prog) 22 5 Try.underlying22 size8 (some ⟨D, 0, none⟩) N N ((N - 16 : Nat) : Int) .i64 16 16 (by omega) (by omega) (by omega) (by omega)
    have hsub : (N : Int) - 16 = ((N - 16 : Nat) : Int) := by omega
    have hsubw : wrap64 ((N : Int) - 16) = ((N - 16 : Nat) : Int) := by unfold wrap64; omega
    have HA9 := As.mk hA9
    have HR9 := As.mk (hR9 w9 .u8 _ (own_len O9.out).symm (own_reads O9.out))
    clear ho9 hc9 hA9 hR9 hDD
    obtain ⟨q, hq⟩ : ∃ q, q = N - 16 := ⟨_, rfl⟩
    rw [← hq] at hsub hsubw hcut HA9 HR9
    have HQ := As.mk hq
    clear hq
    go_wp2_with fail
    go_ret
    have hA := HA9.out (by omega)
    rw [Int.toNat_natCast, Option.map_some, add_at, Nat.zero_add] at hA
    subst hA
    have hrd := HR9.out
    rw [Int.toNat_natCast, show q = k * 16 from by have := HQ.out; have := HNN.out; omega, cbcOut_last (fun x => by rw [encL_length]; exact HM.out) (by simp)] at hrd
    have hfin : omacL perm sub mask xs = cbcSt (encL perm sub mask) 16 (omacPad perm sub mask xs) (List.replicate 16 0) (k + 1) := by
      unfold omacL; rw [← HN.out, HK.out]
    have z1 := C8.out.size
    have z2 := C9.out.size
    have z3 := own_blocks O9.out
    refine ⟨⟨D, q, none⟩, 16, rfl, Nat.le_refl _, (by have := HD8.out; have := Z6.out; show w1.heap.size ≤ D; omega), z3.2, ?_, ?_⟩
    · rw [hfin, show q = k * 16 from by have := HQ.out; have := HNN.out; omega]
      exact hrd
    · have hD8 : D = w7.heap.size := HD8.out
      exact ((Chg.trans (S := fun b => b = g) (S' := fun b => b = g) (Chg.trans (S := NoB) (S' := NoB) C5.out C6.out (fun _ _ e => e) |>.mono (fun _ _ e => e.elim)) C7.out (fun _ _ e => e)).trans C8.out (fun _ _ e => e.elim)).trans C9.out (fun b hb e => by
        have h1 := Z6.out
        have h2 := HX6.out.2
        have h3 := C5.out.size
        rcases e with e | e <;> omega)
end Go.Proofs.Ythbgpbaneghmdaa
