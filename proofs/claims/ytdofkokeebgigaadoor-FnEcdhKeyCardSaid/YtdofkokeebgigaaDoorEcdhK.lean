/- The contract of ecdh.buildKey over the hash of plain data, nothing stripped. -/
import Derived.Test.YtdofkokeebgigaaDoorEcdhB
set_option linter.unusedVariables false
set_option linter.unusedSimpArgs false
namespace Go.Proofs.YtdofkokeebgigaaDoor
open Go.RowKit V
def anon : List Int := [65, 110, 111, 110, 121, 109, 111, 117, 115, 32, 83, 101, 110, 100, 101, 114, 32, 32, 32, 32]
def paramL (full : List Int) (hid cid : Int) (pr : List Int) : List Int := full ++ [18, 3, 1, hid, cid] ++ anon ++ pr
/-- The key as the standard derives it. -/
def keyL (sub : List Int) (n : Nat) (mask zb param : List Int) : List Int := (dmix sub n (mask, 0) ([0, 0, 0, 1] ++ zb ++ param)).1
/-- What buildKey answers. -/
def Keyed (w : World) (ks : Nat) (xs : List Int) (e : Ending) (w' : World) : Prop :=
  Chg NoB w w' ∧ ∃ (A : Option Addr) (c : Nat), e = .returned (.tuple #[.slice A ks c, .nilIface]) ∧ Rb w' A xs ∧ xs.length = ks
set_option maxRecDepth 100000 in
set_option maxHeartbeats 4000000 in
theorem buildKey_any (pk bx : Nat) (hid cid : Int) (ks : Nat) (SA : Option Addr) (sc : Nat) (MA : Option Addr) (n mc : Nat) (sub mask : List Int) (ZA : Option Addr) (zn zc : Nat) (zb : List Int) (OA : Option Addr) (on oc : Nat) (full : List Int) (FA : Option Addr) (fn fc : Nat) (pr : List Int) (w : World)
    (hpk : Blk w pk 63 [.nilIface, .slice none 0 0, .iface 51 (.agg #[.int .u8 hid, .func (.func 14) #[] #[.pointer (some ⟨bx, 0, none⟩)]]), .iface 53 (.agg #[.int .u8 cid, .int .i64 ks])])
    (hb : Blk w bx 24 [.slice SA 256 sc, .slice MA n mc]) (hs : sub.length = 256) (hm : mask.length = n) (n1 : 1 ≤ n) (n2 : n ≤ 64) (rs : Rb w SA sub) (rm : Rb w MA mask) (bs : Byt sub) (bm : Byt mask)
    (rz : Rb w ZA zb) (hzn : zn = zb.length) (hzc : zn ≤ zc) (bz : Byt zb) (ro : Rb w OA full) (hon : on = full.length) (ho1 : 1 ≤ on) (ho2 : on ≤ 101) (bo : Byt full) (rf : Rb w FA pr) (hfn : fn = pr.length) (hf20 : fn = 20) (hfc : fn ≤ fc) (bf : Byt pr) (bh : IsB hid) (bc : IsB cid) (hks : ks ≤ n) :
    Calls Tryd.prog 17 #[.pointer (some ⟨pk, 0, none⟩), .slice ZA zn zc, .slice OA on oc, .slice FA fn fc, .bool false, .bool false] w (Keyed w ks ((keyL sub n mask zb (paramL full hid cid pr)).take ks)) := by
  subst hf20
  have HNEW := As.mk (fun w' (hc : Chg NoB w w') => newH_any hid bx SA sc MA n mc sub mask w' (hb.chg hc (fun e => e)) hs hm n1 n2 (rs.keep hc) (rm.keep hc) bs bm)
  have HPK := As.mk hpk
  have RZ := As.mk (Rf.of rz (Nat.le_refl _))
  have RO := As.mk (Rf.of ro (Nat.le_refl _))
  have RF := As.mk (Rf.of rf (Nat.le_refl _))
  have HL := As.mk (And.intro hzn (And.intro hon (And.intro hfn (And.intro bz (And.intro bo bf)))))
  have HBY := As.mk (And.intro bs (And.intro bm (And.intro hm (And.intro bh bc))))
  have hcutF := cut_whole (P := Tryd.prog) 22 5 Tryd.underlying22 size8 FA 20 fc hfc
  have hzci : (zn : Int) ≤ (zc : Int) := by omega
  have hz63 : (zn : Int) ≤ 9223372036854775807 := by have := rz.1; omega
  have hzw : IntKind.i64.wrap ((zn : Int) - 1) = (zn : Int) - 1 := by simp [IntKind.wrap, IntKind.bits, IntKind.signed]; omega
  have hzw2 : IntKind.i64.wrap (zn : Int) = (zn : Int) := by simp [IntKind.wrap, IntKind.bits, IntKind.signed]; omega
  have n_1 := na_write
  have n_2 := na_sum
  have n_3 := na_hid
  have n_4 := na_hnew
  have n_5 := na_cid
  have n_6 := na_csz
  have m_1 := me_write
  have m_2 := me_sum
  have m_3 := me_hid
  have m_4 := me_hnew
  have m_5 := me_cid
  have m_6 := me_csz
  clear hpk hb hs hm rs rm bs bm rz hzn bz ro hon bo rf hfn bf bh bc
  go_enter Tryd.func17, Tryd.ntmps17
  go_wp2_with fail
  have BF0 := As.mk (Bf.new w)
  have C0 := As.mk ((Chg.refl NoB w).alloc (.cells #[.slice none 0 0, .int .i64 0, .int .i8 0] 71))
  have hz0 : w.heap.size ≤ (w.alloc (.cells #[.slice none 0 0, .int .i64 0, .int .i8 0] 71)).heap.size := C0.out.size
  refine (bufWrite_any w.heap.size w.heap.size [] full OA on oc _ BF0.out hz0 HL.out.2.1 ho1 ((RO.out.keep C0.out).mono (fun b _ hb => by omega)) (by simp; omega)).mono ?_
  rintro e w1 ⟨rfl, hb1, hc1⟩
  rw [List.nil_append] at hb1
  have BF1 := As.mk hb1
  have C1 : As (Chg NoB w w1) := ⟨C0.out.trans hc1 (fun b hb e => by omega)⟩
  have p1 := HPK.out.chg C1.out (fun e => e)
  have KQ : As (∀ w', Chg NoB w1 w' → w'.cell? ⟨pk, 2, none⟩ = some (.iface 51 (.agg #[.int .u8 hid, .func (.func 14) #[] #[.pointer (some ⟨bx, 0, none⟩)]])) ∧ w'.cell? ⟨pk, 3, none⟩ = some (.iface 53 (.agg #[.int .u8 cid, .int .i64 ks]))) := ⟨fun w' h => by
    have b := p1.chg h (fun e => e)
    exact ⟨b.cell 2, b.cell 3⟩⟩
  have hq := KQ.out _ (Chg.refl _ _)
  have x2 := hq.1
  have x3 := hq.2
  have HB : As (Chg NoB w1 w1) := ⟨Chg.refl _ _⟩
  clear hb1 hc1 p1 hq
  go_upto_region 5 with fail
  go_cut [17] (fun s17 wx => ∃ sb : Nat, s17 = .slice (some ⟨sb, 0, none⟩) 5 5 ∧ w1.heap.size ≤ sb ∧ As (Rb wx (some ⟨sb, 0, none⟩) [18, 3, 1, hid, cid]) ∧ As (Chg NoB w1 wx))
  case first =>
    go_region_held3 (fun w' => w'.cell? ⟨pk, 2, none⟩ = some (.iface 51 (.agg #[.int .u8 hid, .func (.func 14) #[] #[.pointer (some ⟨bx, 0, none⟩)]])) ∧ w'.cell? ⟨pk, 3, none⟩ = some (.iface 53 (.agg #[.int .u8 cid, .int .i64 ks]))) (exact KQ.out _ (by repeat (first | (with_reducible exact HB.out) | (with_reducible apply Chg.drew) | (with_reducible apply Chg.alloc)))) (first
      | (go_simp
         refine (idH_any hid _ _).mono ?_
         rintro e w5 ⟨rfl, hc5⟩
         have HB5 : As (Chg NoB w1 w5) := ⟨Chg.trans (by repeat (first | (with_reducible exact HB.out) | (with_reducible apply Chg.drew) | (with_reducible apply Chg.alloc))) hc5 (fun _ _ e => e)⟩
         clear HB hc5
         have HB := HB5
         clear HB5)
      | (go_simp
         refine (idC_any cid _ _).mono ?_
         rintro e w5 ⟨rfl, hc5⟩
         have HB5 : As (Chg NoB w1 w5) := ⟨Chg.trans (by repeat (first | (with_reducible exact HB.out) | (with_reducible apply Chg.drew) | (with_reducible apply Chg.alloc))) hc5 (fun _ _ e => e)⟩
         clear HB hc5
         have HB := HB5
         clear HB5))
    all_goals
      go_wp2_with fail
      go_meet
      exact ⟨_, rfl, HB.out.size, ⟨own_reads (own_lit _ 0 5 .u8 [18, 3, 1, hid, cid] (Nat.zero_le _) (by simp [maxLen]))⟩, ⟨HB.out.alloc _⟩⟩
  case rest =>
    obtain ⟨sb, rfl, hsb, R17, C17⟩ := hcut
    clear x2 x3
    have hB1 : w.heap.size ≤ w1.heap.size := C1.out.size
    have BF2 := As.mk (BF1.out.chg C17.out (fun _ _ _ e => e))
    go_wp2_with fail
    refine (bufWrite_any w.heap.size w.heap.size full [18, 3, 1, hid, cid] (some ⟨sb, 0, none⟩) 5 5 _ BF2.out (Nat.le_trans hB1 C17.out.size) rfl (by omega) ⟨R17.out, fun ad e _ => by injection e with e; subst e; show sb ≠ w.heap.size; have := BF1.out.lt; omega⟩ (by have := HL.out.2.1; omega)).mono ?_
    rintro e w2 ⟨rfl, hb2, hc2⟩
    have BF3 := As.mk hb2
    have C2 : As (Chg NoB w w2) := ⟨(C1.out.trans C17.out (fun _ _ e => e)).trans hc2 (fun b hb e => by omega)⟩
    clear hb2 hc2
    have hconv : (convert 22 22 (.slice (some ⟨w2.heap.size, 0, none⟩) 20 20)).run Tryd.prog (w2.alloc (.cells #[.int .u8 65, .int .u8 110, .int .u8 111, .int .u8 110, .int .u8 121, .int .u8 109, .int .u8 111, .int .u8 117, .int .u8 115, .int .u8 32, .int .u8 83, .int .u8 101, .int .u8 110, .int .u8 100, .int .u8 101, .int .u8 114, .int .u8 32, .int .u8 32, .int .u8 32, .int .u8 32] 5)) = .ok (.slice (some ⟨w2.heap.size, 0, none⟩) 20 20) (w2.alloc (.cells #[.int .u8 65, .int .u8 110, .int .u8 111, .int .u8 110, .int .u8 121, .int .u8 109, .int .u8 111, .int .u8 117, .int .u8 115, .int .u8 32, .int .u8 83, .int .u8 101, .int .u8 110, .int .u8 100, .int .u8 101, .int .u8 114, .int .u8 32, .int .u8 32, .int .u8 32, .int .u8 32] 5 (20, 21))) := Lib.run_convert_bytes_const w2 22 5 #[.int .u8 65, .int .u8 110, .int .u8 111, .int .u8 110, .int .u8 121, .int .u8 109, .int .u8 111, .int .u8 117, .int .u8 115, .int .u8 32, .int .u8 83, .int .u8 101, .int .u8 110, .int .u8 100, .int .u8 101, .int .u8 114, .int .u8 32, .int .u8 32, .int .u8 32, .int .u8 32] 20 20 Tryd.underlying22 Tryd.underlying5
    go_wp2_with fail
    clear hconv
    have hB2 : w.heap.size ≤ w2.heap.size := C2.out.size
    have hal2 := (Chg.refl NoB w2).alloc (.cells #[.int .u8 65, .int .u8 110, .int .u8 111, .int .u8 110, .int .u8 121, .int .u8 109, .int .u8 111, .int .u8 117, .int .u8 115, .int .u8 32, .int .u8 83, .int .u8 101, .int .u8 110, .int .u8 100, .int .u8 101, .int .u8 114, .int .u8 32, .int .u8 32, .int .u8 32, .int .u8 32] 5 (20, 21))
    have R20 : Rb (w2.alloc (.cells #[.int .u8 65, .int .u8 110, .int .u8 111, .int .u8 110, .int .u8 121, .int .u8 109, .int .u8 111, .int .u8 117, .int .u8 115, .int .u8 32, .int .u8 83, .int .u8 101, .int .u8 110, .int .u8 100, .int .u8 101, .int .u8 114, .int .u8 32, .int .u8 32, .int .u8 32, .int .u8 32] 5 (20, 21))) (some ⟨w2.heap.size, 0, none⟩) anon := ⟨by simp [anon], fun _ => ⟨_, rfl, by show w2.heap.size < _; rw [show (w2.alloc (.cells #[.int .u8 65, .int .u8 110, .int .u8 111, .int .u8 110, .int .u8 121, .int .u8 109, .int .u8 111, .int .u8 117, .int .u8 115, .int .u8 32, .int .u8 83, .int .u8 101, .int .u8 110, .int .u8 100, .int .u8 101, .int .u8 114, .int .u8 32, .int .u8 32, .int .u8 32, .int .u8 32] 5 (20, 21))).heap.size = w2.heap.size + 1 from Array.size_push _]; omega, fun j hj => by
      rw [add_lit0, cell_of_row _ w2.heap.size j #[.int .u8 65, .int .u8 110, .int .u8 111, .int .u8 110, .int .u8 121, .int .u8 109, .int .u8 111, .int .u8 117, .int .u8 115, .int .u8 32, .int .u8 83, .int .u8 101, .int .u8 110, .int .u8 100, .int .u8 101, .int .u8 114, .int .u8 32, .int .u8 32, .int .u8 32, .int .u8 32] 5 (20, 21) (heap_alloc_new w2 _)]
      rw [show (#[.int .u8 65, .int .u8 110, .int .u8 111, .int .u8 110, .int .u8 121, .int .u8 109, .int .u8 111, .int .u8 117, .int .u8 115, .int .u8 32, .int .u8 83, .int .u8 101, .int .u8 110, .int .u8 100, .int .u8 101, .int .u8 114, .int .u8 32, .int .u8 32, .int .u8 32, .int .u8 32] : Array Value) = (nums .u8 anon).toArray from rfl, List.getElem?_toArray]
      exact nums_get hj⟩⟩
    have BF4 := As.mk (BF3.out.chg hal2 (fun _ _ _ e => e))
    refine (bufWrite_any w.heap.size w.heap.size _ anon (some ⟨w2.heap.size, 0, none⟩) 20 20 _ BF4.out (Nat.le_trans hB2 hal2.size) rfl (by omega) ⟨R20, fun ad e _ => by injection e with e; subst e; show w2.heap.size ≠ w.heap.size; have := BF3.out.lt; omega⟩ (by have := HL.out.2.1; rw [List.length_append]; simp only [List.length_cons, List.length_nil]; omega)).mono ?_
    rintro e w3 ⟨rfl, hb3, hc3⟩
    have BF5 := As.mk hb3
    have C3 : As (Chg NoB w w3) := ⟨(C2.out.trans hal2 (fun _ _ e => e)).trans hc3 (fun b hb e => by omega)⟩
    clear hb3 hc3 hal2 BF4
    go_wp2_with fail
    refine (bufWrite_any w.heap.size w.heap.size _ pr FA 20 fc _ BF5.out C3.out.size HL.out.2.2.1 (by omega) ((RF.out.keep C3.out).mono (fun b _ hb => by omega)) (by have := HL.out.2.1; simp only [List.length_append, List.length_cons, List.length_nil, anon]; omega)).mono ?_
    rintro e w4 ⟨rfl, hb4, hc4⟩
    have C4 : As (Chg NoB w w4) := ⟨C3.out.trans hc4 (fun b hb e => by omega)⟩
    obtain ⟨_, v4, lr, hbk4, hown4, hne4⟩ := hb4
    have p4 := HPK.out.chg C4.out (fun e => e)
    have x2 := p4.cell 2
    have x3 := p4.cell 3
    simp only [List.getElem?_cons_zero, List.getElem?_cons_succ] at x2 x3
    have hz4 : (full ++ [18, 3, 1, hid, cid] ++ anon ++ pr).length ≤ 1048576 := by have := HL.out; simp only [List.length_append, List.length_cons, List.length_nil, anon]; omega
    have hpar : full ++ [18, 3, 1, hid, cid] ++ anon ++ pr = paramL full hid cid pr := rfl
    have BPA := As.mk (show Byt (paramL full hid cid pr) from ((HL.out.2.2.2.2.1.append (fun x hx => by simp at hx; rcases hx with rfl | rfl | rfl | rfl | rfl; exact ⟨by decide, by decide⟩; exact ⟨by decide, by decide⟩; exact ⟨by decide, by decide⟩; exact HBY.out.2.2.2.1; exact HBY.out.2.2.2.2)).append (fun x hx => by simp only [anon] at hx; revert x; decide)).append HL.out.2.2.2.2.2)
    rw [nums_length] at hown4
    rw [hpar] at hown4 hz4
    have HPL : As (0 < (paramL full hid cid pr).length) := ⟨by unfold paramL; simp only [List.length_append, List.length_cons]; omega⟩
    generalize paramL full hid cid pr = par at *
    clear hpar
    obtain ⟨gb, gc, hv4, hgc, hgb0, hgb1⟩ := own_form_pos hown4 HPL.out
    obtain ⟨L, hL⟩ : ∃ L, L = par.length := ⟨_, rfl⟩
    rw [← hL] at hv4 hgc
    subst hv4
    have HLP := As.mk hL
    have HBK4 : As (Blk w4 w.heap.size 71 [.slice (some ⟨gb, 0, none⟩) L gc, .int .i64 0, .int .i8 lr]) := ⟨hbk4⟩
    have HOW4 := As.mk hown4
    have HL4 := As.mk hz4
    have hw4 : w.heap.size < w4.heap.size := HBK4.out.lt
    clear hbk4 hown4 hne4 hL hz4 p4 BF0 BF1 BF2 BF3 BF5
    go_wp2_with fail
    refine (HNEW.out _ C4.out).mono ?_
    rintro e w5 ⟨hc5, B0, B1, d, SA', sc', MA', mc', g, c, rfl, h50, h51, h52, hds5⟩
    have C5 := As.mk (C4.out.trans hc5 (fun _ _ e => e))
    have HBK5 := As.mk (HBK4.out.chg hc5 (fun e => e))
    have HOW5 := As.mk (own_keep HOW4.out hc5)
    have HDS5 := As.mk hds5
    have hgl := (own_blocks hds5.2.2.1).2
    have hdl := hds5.2.1.lt
    have hd0 := hds5.1.dge
    have hd1 := hds5.1.dlt
    have p5 := HPK.out.chg C5.out (fun e => e)
    clear x2 x3
    have HW1 : As (Calls Tryd.prog 45 #[.pointer (some ⟨d, 0, none⟩), .slice (some ⟨w5.heap.size, 0, none⟩) 4 4] (w5.alloc (.cells #[.int .u8 0, .int .u8 0, .int .u8 0, .int .u8 1] 5)) (WasMixed (w5.alloc (.cells #[.int .u8 0, .int .u8 0, .int .u8 0, .int .u8 1] 5)) B0 B1 d n SA' sc' MA' mc' sub mask g c (dmix sub n (mask, 0) [0, 0, 0, 1]) 4)) := ⟨by
      have hal : Chg NoB w5 (w5.alloc (.cells #[.int .u8 0, .int .u8 0, .int .u8 0, .int .u8 1] 5)) := (Chg.refl NoB w5).alloc _
      refine write_any B0 B1 d n SA' sc' MA' mc' sub mask g c _ (some ⟨w5.heap.size, 0, none⟩) 4 4 [0, 0, 0, 1] _ (HDS5.out.keep hal) rfl ⟨?_, fun ad e hp => by injection e with e; subst e; exact ⟨by show w5.heap.size ≠ d; omega, by show w5.heap.size ≠ g; omega⟩⟩ (by intro x hx; revert x; decide)
      exact own_reads (own_lit w5 0 5 .u8 [0, 0, 0, 1] (Nat.zero_le _) (by simp [maxLen]))⟩
    clear hc5 hds5
    go_wp2_with fail
    refine HW1.out.mono ?_
    rintro e w6 ⟨rfl, hc6, hds6⟩
    have C6 : As (Chg NoB w w6) := ⟨(C5.out.alloc _).trans hc6 (fun b hb e => by omega)⟩
    have C56 : As (Chg (fun b => b = d ∨ b = g) w5 w6) := ⟨((Chg.refl _ w5).alloc _).trans hc6 (fun _ _ e => e)⟩
    have HDS6 := As.mk hds6
    have RZ6 : As (∀ w', Chg NoB w6 w' → Rf (fun b => b ≠ d ∧ b ≠ g) w' ZA zb) := ⟨fun w' h => ((RZ.out.keep C6.out).keep h).mono (fun b _ hb => ⟨by omega, by omega⟩)⟩
    have HW2 := As.mk (fun w' (h : Chg NoB w6 w') => write_any B0 B1 d n SA' sc' MA' mc' sub mask g c _ ZA zn zc zb w' (HDS6.out.keep h) HL.out.1 (RZ6.out w' h) HL.out.2.2.2.1)
    clear hc6 hds6
    go_upto_region 28 with fail
    go_cut [30, 31] (fun s30 s31 wx => s31 = .nilIface ∧ As (Ds wx B0 B1 d n SA' sc' MA' mc' sub mask g c (dmix sub n (dmix sub n (mask, 0) [0, 0, 0, 1]) zb)) ∧ As (Chg (fun b => b = d ∨ b = g) w6 wx))
    case first =>
      go_region_law (first
        | (go_simp
           refine (HW2.out _ ?c1).mono ?_
           case c1 => repeat (first | exact Chg.refl _ _ | (with_reducible apply Chg.drew) | (with_reducible apply Chg.alloc))
           rintro e w7 ⟨rfl, hc7, hd7⟩
           have HD7 := As.mk hd7
           have HC7 : As (Chg (fun b => b = d ∨ b = g) w6 w7) := ⟨Chg.trans (Chg.mono (S := NoB) (by repeat (first | exact Chg.refl _ _ | (with_reducible apply Chg.drew) | (with_reducible apply Chg.alloc))) (fun _ _ e => e.elim)) hc7 (fun _ _ e => e)⟩
           clear hc7 hd7))
      all_goals
        go_wp2_with fail
        go_meet
        exact ⟨rfl, HD7, HC7⟩
    case rest =>
      obtain ⟨rfl, HD7, HC7⟩ := hcut
      obtain ⟨w7, rfl⟩ : ∃ w7 : World, w7 = wc := ⟨_, rfl⟩
      have C57 := As.mk (C56.out.trans HC7.out (fun _ _ e => e))
      have HBK7 := As.mk (HBK5.out.chg C57.out (by have := HBK4.out.lt; omega))
      have HR7 : As (Rb w7 (some ⟨gb, 0, none⟩) par) := ⟨own_reads (own_chg HOW5.out C57.out (fun b hb e => by simp [Value.ownBlock] at hb; omega))⟩
      have HW3 := As.mk (fun w' A (h : Chg NoB w7 w') (hA : A = some ⟨gb, 0, none⟩) => write_any B0 B1 d n SA' sc' MA' mc' sub mask g c _ A L gc par w' (HD7.out.keep h) HLP.out ⟨by rw [hA]; exact HR7.out.keep h, fun ad e hp => by rw [hA] at e; injection e with e; subst e; exact ⟨by show gb ≠ d; omega, by show gb ≠ g; omega⟩⟩ BPA.out)
      have C7 := As.mk (C5.out.trans C57.out (fun b hb e => by omega))
      go_upto_region 31 with fail
      go_cut [32, 33] (fun s32 s33 wx => s33 = .nilIface ∧ As (Ds wx B0 B1 d n SA' sc' MA' mc' sub mask g c (dmix sub n (dmix sub n (dmix sub n (mask, 0) [0, 0, 0, 1]) zb) par)) ∧ As (Chg (fun b => b = d ∨ b = g) w7 wx))
      case first =>
        go_region_law (first
          | (go_simp
             refine (bufRow_any w.heap.size L gc (some ⟨gb, 0, none⟩) lr _ (HBK7.out.chg (S := NoB) ?c1 (fun e => e)) hgc).mono ?_
             case c1 => repeat (first | exact Chg.refl _ _ | (with_reducible apply Chg.drew) | (with_reducible apply Chg.alloc))
             rintro e w8' ⟨⟨A8, rfl, hA8⟩, nn, rfl⟩
             have HA8 : As (A8 = some ⟨gb, 0, none⟩) := ⟨hA8 (by have := HLP.out; have := HPL.out; omega)⟩
             clear hA8)
          | (go_simp
             refine (HW3.out _ A8 ?c1 HA8.out).mono ?_
             case c1 => repeat (first | exact Chg.refl _ _ | (with_reducible apply Chg.drew) | (with_reducible apply Chg.drewN) | (with_reducible apply Chg.alloc))
             rintro e w8 ⟨rfl, hc8, hd8⟩
             have HD8 := As.mk hd8
             have HC8 : As (Chg (fun b => b = d ∨ b = g) w7 w8) := ⟨Chg.trans (Chg.mono (S := NoB) (by repeat (first | exact Chg.refl _ _ | (with_reducible apply Chg.drew) | (with_reducible apply Chg.drewN) | (with_reducible apply Chg.alloc))) (fun _ _ e => e.elim)) hc8 (fun _ _ e => e)⟩
             clear hc8 hd8))
        all_goals
          go_wp2_with fail
          go_meet
          exact ⟨rfl, HD8, HC8⟩
      case rest =>
        obtain ⟨rfl, HD8, HC8⟩ := hcut
        obtain ⟨w8, rfl⟩ : ∃ w8 : World, w8 = wc := ⟨_, rfl⟩
        have C8 := As.mk (C7.out.trans HC8.out (fun b hb e => by omega))
        have h18 : B1 ≤ w8.heap.size := Nat.le_trans h51 (Nat.le_trans C57.out.size HC8.out.size)
        have HDM : As (dmix sub n (dmix sub n (dmix sub n (mask, 0) [0, 0, 0, 1]) zb) par = dmix sub n (mask, 0) ([0, 0, 0, 1] ++ zb ++ par)) := ⟨by rw [dmix_append sub n _ ([0, 0, 0, 1] ++ zb) par, dmix_append sub n _ [0, 0, 0, 1] zb]⟩
        have HLK : As ((keyL sub n mask zb par).length = n) := ⟨(okst_mix HBY.out.1 n1 _ (mask, 0) ⟨HBY.out.2.2.1, HBY.out.2.1, by omega⟩).1⟩
        have HSU := As.mk (sum_any B0 B1 d n SA' sc' MA' mc' sub mask g c _ (.slice none 0 0) [] w8 HD8.out (ow_of (own_nil _ _ _ _)) h18 (by simp))
        go_wp2_with fail
        refine HSU.out.mono ?_
        rintro e w9 ⟨v9, rfl, ho9, hc9⟩
        rw [List.nil_append, HDM.out] at ho9
        obtain ⟨A9, c9, hv9, hl9, hr9⟩ := ow_form ho9
        rw [show (dmix sub n (mask, 0) ([0, 0, 0, 1] ++ zb ++ par)).1.length = n from HLK.out] at hv9 hl9
        subst hv9
        have R9 : As (Rb w9 A9 (keyL sub n mask zb par)) := ⟨hr9⟩
        have C9 : As (Chg NoB w w9) := ⟨C8.out.trans hc9 (fun b hb e => by cases e.2)⟩
        have p9 := HPK.out.chg C9.out (fun e => e)
        have y3 := p9.cell 3
        simp only [List.getElem?_cons_zero, List.getElem?_cons_succ] at y3
        have hnk : ¬ ((n : Int) < (ks : Int)) := by omega
        have hcutK := cut_to (P := Tryd.prog) 22 5 Tryd.underlying22 size8 A9 n c9 (ks : Int) .i64 ks rfl (by omega)
        clear ho9 hc9 hr9
        go_wp2_with fail
        refine (sizeC_any _ _ _).mono ?_
        rintro e w10 ⟨rfl, hc10⟩
        have C10 := As.mk (C9.out.trans hc10 (fun _ _ e => e))
        have R10 := As.mk (R9.out.keep hc10)
        have p10 := HPK.out.chg C10.out (fun e => e)
        clear y3
        have y3 := p10.cell 3
        simp only [List.getElem?_cons_zero, List.getElem?_cons_succ] at y3
        clear hc10
        go_wp2_with fail
        refine (sizeC_any _ _ _).mono ?_
        rintro e w11 ⟨rfl, hc11⟩
        have C11 := As.mk (C10.out.trans hc11 (fun _ _ e => e))
        have R11 := As.mk (R10.out.keep hc11)
        clear hc11 y3
        go_wp2_with fail
        go_ret2
        exact ⟨C11.out, A9, c9, rfl, R11.out.take_ ks, by rw [List.length_take, HLK.out]; omega⟩
end Go.Proofs.YtdofkokeebgigaaDoor
