/- The contract of io.ReadAtLeast over a source, into the beginning of a greater row. -/
import Derived.Test.YthambncffcphkaaDoorReadFull
set_option linter.unusedVariables false
set_option linter.unusedSimpArgs false
namespace Go.Proofs.YthambncffcphkaaDoor
open Go.RowKit V
/-- A full read's end: all that was asked for, or an error. -/
def FilledP (et : TypeId) (w : World) (base s gb N capN n : Nat) (xs zs : List Int) (sp : Int) (a0 a1 : Addr) (e : Ending) (w' : World) : Prop :=
  Chg (fun b => b = s ∨ b = gb) w w' ∧
  ((n ≤ xs.length ∧ e = .returned (.tuple #[.int .i64 n, .nilIface]) ∧ Src w' base s (xs.drop n) sp ∧ Own w' base et .u8 (.slice (some ⟨gb, 0, none⟩) N capN) (xs.take n ++ zs.drop n)) ∨
   (xs.length < n ∧ e = .returned (.tuple #[.int .i64 xs.length, .iface 95 (.pointer (some (if xs.length = 0 then a0 else a1)))])))
def RFInvP (et : TypeId) (base s gb N capN n : Nat) (xs zs : List Int) (sp : Int) (a0 : Addr) (k : Nat) (err : Value) (w w' : World) : Prop :=
  k ≤ n ∧ k ≤ xs.length ∧ Src w' base s (xs.drop k) sp ∧ Own w' base et .u8 (.slice (some ⟨gb, 0, none⟩) N capN) (xs.take k ++ zs.drop k) ∧
  (err = .nilIface ∨ (err = .iface 95 (.pointer (some a0)) ∧ k = xs.length ∧ k < n)) ∧ Chg (fun b => b = s ∨ b = gb) w w'
set_option maxRecDepth 100000 in
set_option maxHeartbeats 2000000 in
theorem readAtLeastP_any (et : TypeId) (base s gb N capN cap n : Nat) (xs zs : List Int) (sp : Int) (w : World) (a0 a1 : Addr) (hS : Sent w a0 a1) (hB : 0 < base ∧ 1 < base ∧ a0.block < base ∧ a1.block < base) (hs : Src w base s xs sp) (ho : Own w base et .u8 (.slice (some ⟨gb, 0, none⟩) N capN) zs) (hzn : N = zs.length) (hnN : n ≤ N) (hne : s ≠ gb) (hbs : base ≤ s) (hbg : base ≤ gb) (hnc : n ≤ cap) (hxl : xs.length ≤ 2097152) (hzl : N ≤ 1048576) :
    Calls Tryd.prog 28 #[.iface 58 (.pointer (some ⟨s, 0, none⟩)), .slice (some ⟨gb, 0, none⟩) n cap, .int .i64 n] w (FilledP et w base s gb N capN n xs zs sp a0 a1) := by
  have HS := As.mk hS
  have HB := As.mk hB
  have HI : As (RFInvP et base s gb N capN n xs zs sp a0 0 .nilIface w w) := ⟨Nat.zero_le _, Nat.zero_le _, by simpa using hs, by simpa using ho, Or.inl rfl, Chg.refl _ _⟩
  have HZN := As.mk hzn
  have HXL := As.mk hxl
  clear hS hB hs ho hzn hxl
  go_enter Tryd.func28, Tryd.ntmps28
  go_wp2_with fail
  go_loopw [6, 7, 8] (fun i er _ w' => ∃ k : Nat, i = .int .i64 k ∧ As (RFInvP et base s gb N capN n xs zs sp a0 k er w w')) (fun i er _ _ => 2 * (n - (intOf i).toNat) + (match er with | .nilIface => 1 | _ => 0))
  case atStart => exact ⟨0, rfl, HI⟩
  case round =>
    clear HI
    obtain ⟨k, rfl, HI⟩ := hrel
    obtain ⟨hk, hkx, hsrc, hown, herr, hchg⟩ := HI.out
    have HSR := As.mk hsrc
    have HOW := As.mk hown
    have HCH := As.mk hchg
    have hsent : Sent wr a0 a1 := HS.out.chg HB.out hchg (fun i hi e => by rcases e with e | e <;> omega)
    have HSE := As.mk hsent
    have g0 := hsent.1
    have g1 := hsent.2.1
    clear hsrc hown hchg hsent HI
    by_cases hlt : k < n
    · rcases herr with rfl | ⟨rfl, hke, _⟩
      · by_cases hkx2 : k < xs.length
        · obtain ⟨A', hcut, hA', _⟩ := cut_from (P := Tryd.prog) 22 5 Tryd.underlying22 size8 (some ⟨gb, 0, none⟩) n cap (k : Int) .i64 (n - k) (cap - k) (by omega) (by omega) (by omega) hnc
          have hA2 : A' = some ⟨gb, k, none⟩ := by
            rw [hA' (by omega), Int.toNat_natCast]
            exact congrArg some (add_lit0 gb k)
          subst hA2
          have HRD : As (∀ w0, Chg NoB wr w0 → Calls Tryd.prog 47 #[.pointer (some ⟨s, 0, none⟩), .slice (some ⟨gb, k, none⟩) (n - k) (cap - k)] w0 (GotSome et w0 base s gb capN k (n - k) (xs.drop k) (xs.take k ++ zs.drop k) sp)) := ⟨fun w0 h0 => by
            have hl : (xs.take k ++ zs.drop k).length = N := by rw [List.length_append, List.length_take, List.length_drop]; have := HZN.out; omega
            exact sourceRead_some et base s gb capN k (n - k) (cap - k) (xs.drop k) _ sp w0 (HSR.out.keep h0) (by rw [hl]; exact own_keep HOW.out h0) hne hbs (by omega) (by rw [hl]; omega) (by omega) (by rw [List.length_drop]; omega) (by rw [List.length_drop]; have := HXL.out; omega) (by rw [hl]; omega)⟩
          have HK := As.mk hkx2
          clear hkx2 hA'
          have na := nil_aheadR
          have mr := method_read
          go_wp2_with fail
          go_region_law (first
            | (go_simp
               refine (HRD.out _ ?hc0).mono ?_
               case hc0 => repeat (first | exact Chg.refl _ _ | (with_reducible apply Chg.drew) | (with_reducible apply Chg.alloc))
               rintro e1 w1 ⟨j, hj1, hj2, hj3, rfl, hs1, ho1, hc1⟩
               have HJ := As.mk (And.intro hj1 (And.intro hj2 hj3))
               have HS1 := As.mk hs1
               have HO1 := As.mk ho1
               have HC1 := As.mk hc1
               clear hj1 hj2 hj3 hs1 ho1 hc1))
          all_goals
            have hj := HJ.out
            rw [List.length_drop] at hj
            have hjn : j ≤ n - k := hj.2.1
            have hj1 : 1 ≤ j := hj.1
            have hwj : IntKind.i64.wrap ((k : Int) + (j : Int)) = ((k + j : Nat) : Int) := by simp [IntKind.wrap, IntKind.bits, IntKind.signed]; omega
            have HI2 : As (RFInvP et base s gb N capN n xs zs sp a0 (k + j) .nilIface w w1) := ⟨by
              have hl : (xs.take k ++ zs.drop k).length = N := by rw [List.length_append, List.length_take, List.length_drop]; have := HZN.out; have := HK.out; omega
              refine ⟨by omega, by have := HK.out; omega, ?_, ?_, Or.inl rfl, ?_⟩
              · have := HS1.out; rwa [List.drop_drop] at this
              · have := HO1.out; rwa [hl, splice_step (by have := HK.out; omega) (by have := HZN.out; omega)] at this
              · exact (HCH.out.trans (Chg.refl (fun b => b = s ∨ b = gb) wr).drew (fun i _ e => e)).trans HC1.out (fun i _ e => e)⟩
            clear hj HJ
            go_wp2_with fail
            go_roundw
            case rel => exact ⟨k + j, by go_num, HI2⟩
            case measure => simp [intOf]; omega
        · have hke : k = xs.length := by omega
          have hnil : xs.drop k = [] := List.drop_of_length_le (by omega)
          obtain ⟨A', hcut, _, _⟩ := cut_from (P := Tryd.prog) 22 5 Tryd.underlying22 size8 (some ⟨gb, 0, none⟩) n cap (k : Int) .i64 (n - k) (cap - k) (by omega) (by omega) (by omega) hnc
          have HRD : As (∀ w0, Chg NoB wr w0 → Calls Tryd.prog 47 #[.pointer (some ⟨s, 0, none⟩), .slice A' (n - k) (cap - k)] w0 fun e w' => e = .returned (.tuple #[.int .i64 0, .iface 95 (.pointer (some a0))]) ∧ ∃ m, w' = w0.drewN m) := ⟨fun w0 h0 => by
            have h := HSR.out.keep h0
            rw [hnil] at h
            exact sourceRead_eof base s (n - k) (cap - k) A' sp w0 a0 a1 (HSE.out.keep h0) h (by omega)⟩
          have HKE := As.mk hke
          clear hkx2 hke hnil
          have na := nil_aheadR
          have mr := method_read
          go_wp2_with fail
          go_region_law (first
            | (go_simp
               refine (HRD.out _ ?hc0).mono ?_
               case hc0 => repeat (first | exact Chg.refl _ _ | (with_reducible apply Chg.drew) | (with_reducible apply Chg.alloc))
               rintro e1 w1 ⟨rfl, m1, hw1⟩
               have HC1 : As (Chg NoB wr w1) := ⟨by rw [hw1]; exact Chg.drewN (by repeat (first | exact Chg.refl _ _ | (with_reducible apply Chg.drew) | (with_reducible apply Chg.alloc))) m1⟩
               clear hw1))
          all_goals
            have HI2 : As (RFInvP et base s gb N capN n xs zs sp a0 k (.iface 95 (.pointer (some a0))) w w1) :=
              ⟨by omega, by have := HKE.out; omega, HSR.out.keep HC1.out, own_keep HOW.out HC1.out, Or.inr ⟨rfl, HKE.out, hlt⟩, HCH.out.trans HC1.out (fun _ _ e => e.elim)⟩
            go_wp2_with fail
            go_roundw
            case rel => exact ⟨k, by go_num, HI2⟩
            case measure => simp [intOf]
      · have HKE := As.mk hke
        have pq := ptrSame a0
        have hfil : As (∀ w', Chg (fun b => b = s ∨ b = gb) w w' → ∀ ae, ae = (if xs.length = 0 then a0 else a1) → FilledP et w base s gb N capN n xs zs sp a0 a1 (.returned (.tuple #[.int .i64 k, .iface 95 (.pointer (some ae))])) w') :=
          ⟨fun w' hc ae he => ⟨hc, Or.inr ⟨by omega, by rw [he, hke]⟩⟩⟩
        clear hke hkx
        by_cases hk0 : k = 0
        · subst hk0
          go_wp2_with fail
          go_ret2
          exact hfil.out _ HCH.out a0 (by rw [if_pos HKE.out.symm])
        · have hkp : 0 < k := by omega
          go_wp2_with fail
          go_ret2
          exact hfil.out _ HCH.out a1 (by rw [if_neg (by have := HKE.out; omega)])
    · obtain rfl : k = n := by omega
      have hfin : As (FilledP et w base s gb N capN k xs zs sp a0 a1 (.returned (.tuple #[.int .i64 k, .nilIface])) wr) := ⟨HCH.out, Or.inl ⟨hkx, rfl, HSR.out, HOW.out⟩⟩
      clear hkx
      rcases herr with rfl | ⟨rfl, _, hkk⟩
      · go_wp2_with fail
        go_ret2
        exact hfin.out
      · omega
end Go.Proofs.YthambncffcphkaaDoor
