/- The contract of spec.XoredRight. -/
import Derived.Test.YtmakkjkbonnjgaaXored
set_option linter.unusedVariables false
set_option linter.unusedSimpArgs false
namespace Go.Proofs.Ytmakkjkbonnjgaa
open Go.RowKit V
set_option maxRecDepth 100000 in
set_option maxHeartbeats 1000000 in
theorem specXoredRight_any (A : Option Addr) (c q m : Nat) (xs : List Int) (B : Option Addr) (d : Nat) (ys : List Int) (w : World) (hn : xs.length = q + m) (hm : ys.length = m) (hc : xs.length ≤ c) (rx : Rb w A xs) (ry : Rb w B ys) (hl : q + m ≤ 140737488351232) :
    Calls Try.prog 20 #[.slice A (q + m) c, .slice B m d] w (GivesW NoB w (xs.take q ++ xorL (xs.drop q) ys)) := by
  have RX := As.mk rx
  have RY := As.mk ry
  have HN := As.mk hn
  have HM := As.mk hm
  have hcut := cut_to (P := Try.prog) 22 5 Try.underlying22 size8 A (q + m) c (q : Int) .i64 q rfl (by omega)
  obtain ⟨A2, hcut2, _, hA2⟩ := cut_from (P := Try.prog) 22 5 Try.underlying22 size8 A (q + m) c (q : Int) .i64 m (c - q) (by omega) (by omega) (by omega) (by omega)
  have R1 : As (Rb w A (xs.take q)) := ⟨rx.take_ q⟩
  have R2 : As (Rb w A2 (xs.drop q)) := ⟨by have := hA2 w .u8 xs hn rx; rwa [Int.toNat_natCast] at this⟩
  have L1 : As (q = (xs.take q).length) := ⟨by rw [List.length_take]; omega⟩
  have L2 : As (m = (xs.drop q).length) := ⟨by rw [List.length_drop]; omega⟩
  have hsub : ((q + m : Nat) : Int) - (m : Int) = (q : Int) := by omega
  have HB : As (Chg NoB w w) := ⟨Chg.refl _ _⟩
  have L3 : As (m = (xorL (xs.drop q) ys).length) := ⟨by rw [xorL_length, List.length_drop]; omega⟩
  clear rx ry hn hm hA2
  go_enter Try.func20, Try.ntmps20
  go_wp2
  go_region_law (first
    | (refine step_append_e (N := 15) rfl rfl _ _ 22 rfl 5 .u8 1 Try.underlying22 info8 (by decide) _ w.heap.size (xs.take q) A q c rfl rfl L1.out (R1.out.keep ?hb1) ?hs1 ?hl1 ?_
       case hb1 => repeat (first | exact HB.out | (with_reducible apply Chg.drew) | (with_reducible apply Chg.alloc))
       case hs1 => refine Chg.size (S := NoB) ?_; repeat (first | exact HB.out | (with_reducible apply Chg.drew) | (with_reducible apply Chg.alloc))
       case hl1 => (have := L1.out; omega)
       intro v15 w15 ho15 hc15
       have HO15 := As.mk ho15
       have HB15 : As (Chg NoB w w15) := ⟨Chg.trans (by repeat (first | exact HB.out | (with_reducible apply Chg.drew) | (with_reducible apply Chg.alloc))) hc15 (fun _ _ e => e)⟩
       first
         | (have R20' := As.mk (R20.out.keep (Chg.trans (S := NoB) (by repeat (first | exact Chg.refl _ w20 | (with_reducible apply Chg.drew) | (with_reducible apply Chg.alloc))) hc15 (fun _ _ e => e)))
            clear R20
            have R20 := R20'
            clear R20')
         | skip
       clear ho15 hc15 HB
       have HB := HB15
       clear HB15)
    | (refine step_append_ow (N := 21) rfl rfl _ _ 22 rfl 5 .u8 1 Try.underlying22 info8 (by decide) _ w.heap.size (xs.take q) (xorL (xs.drop q) ys) A20 m c20 rfl rfl L3.out HO15.out R20.out HB.out.size ?hl1 ?_
       case hl1 => (have := L1.out; have := L3.out; omega)
       intro v21 w21 ho21 hc21
       have HO21 := As.mk ho21
       have HB21 : As (Chg NoB w w21) := ⟨Chg.over HB.out hc21 (Nat.le_refl _)⟩
       clear ho21 hc21)
    | (go_simp
       refine (specXored_any A2 m (c - q) (xs.drop q) B m d ys _ L2.out HM.out.symm (R2.out.keep ?hb1) (RY.out.keep ?hb2) ?hl1).mono ?_
       case hb1 => repeat (first | exact HB.out | (with_reducible apply Chg.drew) | (with_reducible apply Chg.alloc))
       case hb2 => repeat (first | exact HB.out | (with_reducible apply Chg.drew) | (with_reducible apply Chg.alloc))
       case hl1 => (have := L2.out; omega)
       rintro e20 w20 ⟨v20, rfl, ho20, hc20⟩
       obtain ⟨A20, c20, rfl, _, hr20⟩ := ow_form ho20
       have R20 := As.mk hr20
       rw [xorL_length, ← L2.out]
       have HB20 : As (Chg NoB w w20) := ⟨Chg.trans (by repeat (first | exact HB.out | (with_reducible apply Chg.drew) | (with_reducible apply Chg.alloc))) hc20 (fun _ _ e => e)⟩
       first
         | (have HO15' := As.mk (ow_keep HO15.out hc20)
            clear HO15
            have HO15 := HO15'
            clear HO15')
         | skip
       clear ho20 hc20 hr20 HB
       have HB := HB20
       clear HB20))
  all_goals
    go_wp2
    go_ret
    exact ⟨v21, rfl, HO21.out, HB21.out⟩
theorem specXoredRight_n (A : Option Addr) (n c q m : Nat) (xs : List Int) (B : Option Addr) (d : Nat) (ys : List Int) (w : World) (hq : n = q + m) (hn : xs.length = n) (hm : ys.length = m) (hc : xs.length ≤ c) (rx : Rb w A xs) (ry : Rb w B ys) (hl : n ≤ 140737488351232) :
    Calls Try.prog 20 #[.slice A n c, .slice B m d] w (GivesW NoB w (xs.take q ++ xorL (xs.drop q) ys)) := by
  subst hq
  exact specXoredRight_any A c q m xs B d ys w hn hm hc rx ry hl
end Go.Proofs.Ytmakkjkbonnjgaa
