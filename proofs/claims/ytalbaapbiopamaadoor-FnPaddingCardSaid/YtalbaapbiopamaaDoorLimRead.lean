/- The contract of (*io.LimitedReader).Read over a source. -/
import Derived.Test.YtalbaapbiopamaaDoorReadIt
import Derived.Test.YtalbaapbiopamaaDoorEndAny2
set_option linter.unusedVariables false
set_option linter.unusedSimpArgs false
namespace Go.Proofs.YtalbaapbiopamaaDoor
open Go.RowKit V
/-- A limited reader at g: N bytes are still let through of the source at s. -/
def Lim (w : World) (g s N : Nat) : Prop := Blk w g 78 [.iface 34 (.pointer (some ⟨s, 0, none⟩)), .int .i64 N]
/-- A read that gives nothing: the end. -/
def LimEnd (base g s N : Nat) (xs : List Int) (sp : Int) (a0 : Addr) (w : World) (e : Ending) (w' : World) : Prop :=
  e = .returned (.tuple #[.int .i64 0, .iface 88 (.pointer (some a0))]) ∧ Lim w' g s N ∧ Src w' base s xs sp ∧ Chg (fun b => b = g) w w'
/-- A read that gives some bytes. -/
def LimGot (base g s gb cap n N : Nat) (xs zs : List Int) (sp : Int) (w : World) (e : Ending) (w' : World) : Prop :=
  ∃ k : Nat, 1 ≤ k ∧ k ≤ n ∧ k ≤ N ∧ k ≤ xs.length ∧ e = .returned (.tuple #[.int .i64 k, .nilIface]) ∧ Lim w' g s (N - k) ∧ Src w' base s (xs.drop k) sp ∧ Own w' base 5 .u8 (.slice (some ⟨gb, 0, none⟩) n cap) (splice zs 0 (xs.take k)) ∧ Chg (fun b => b = g ∨ b = s ∨ b = gb) w w'
set_option maxRecDepth 100000 in
set_option maxHeartbeats 1000000 in
theorem limRead_out (base g s n c : Nat) (A : Option Addr) (xs : List Int) (sp : Int) (w : World) (a0 a1 : Addr) (hS : Sent w a0 a1) (hl : Lim w g s 0) (hs : Src w base s xs sp) :
    Calls Tryd.prog 42 #[.pointer (some ⟨g, 0, none⟩), .slice A n c] w (LimEnd base g s 0 xs sp a0 w) := by
  have c1 := hl.cell 1
  simp only [List.getElem?_cons_zero, List.getElem?_cons_succ] at c1
  have g0 := hS.1
  have HL := As.mk hl
  have HS := As.mk hs
  clear hl hS hs
  go_enter Tryd.func42, Tryd.ntmps42
  go_wp2_with fail
  go_quiet (fail)
  go_wp2_with fail
  go_ret2
  exact ⟨rfl, HL.out.drewN nq, HS.out.keep ((Chg.refl NoB w).drewN nq), (Chg.refl _ w).drewN nq⟩
set_option maxRecDepth 100000 in
set_option maxHeartbeats 1000000 in
theorem limRead_dry (base g s gb n N : Nat) (sp : Int) (w : World) (a0 a1 : Addr) (hS : Sent w a0 a1) (hl : Lim w g s N) (hN : 0 < N) (hN2 : N ≤ 1048576) (hs : Src w base s [] sp) (hn : 0 < n) (hgs : g ≠ s) (hbg : base ≤ g) (hn2 : n ≤ 1048576) :
    Calls Tryd.prog 42 #[.pointer (some ⟨g, 0, none⟩), .slice (some ⟨gb, 0, none⟩) n n] w (LimEnd base g s N [] sp a0 w) := by
  have c0 := hl.cell 0
  have c1 := hl.cell 1
  have z1 := hl.frozen 1
  simp only [List.getElem?_cons_zero, List.getElem?_cons_succ] at c0 c1
  have HL := As.mk hl
  have HS := As.mk hs
  have HSE := As.mk hS
  clear hl hS hs
  have na := nil_aheadR
  have mr := method_read
  have hN0 : (0 : Int) < (N : Int) := by omega
  by_cases hlt : N < n
  · have hltz : (N : Int) < (n : Int) := by omega
    have e1 : IntKind.i64.wrap (N : Int) = N := by rw [IntKind.wrap_i64]; omega
    have hle : N ≤ n := by omega
    have e2 : IntKind.i64.wrap ((N : Int) - 0) = N := by rw [IntKind.wrap_i64]; omega
    go_enter Tryd.func42, Tryd.ntmps42
    go_wp2_with fail
    refine (sourceRead_eof base s N _ _ sp _ a0 a1 HSE.out HS.out hN).mono ?_
    rintro e w1 ⟨rfl, m, rfl⟩
    go_wp2_with fail
    go_ret2
    have hb := (HL.out.drewN m).set_ 1 (.int .i64 N)
    exact ⟨rfl, hb, (HS.out.keep ((Chg.refl NoB w).drewN m)).chg ((Chg.refl (fun b => b = g) _).setCell (p := ⟨g, 1, none⟩) _ (fun _ => rfl)) (fun e => hgs e.symm) (fun b hb e => by omega), ((Chg.refl _ w).drewN m).setCell (p := ⟨g, 1, none⟩) _ (fun _ => rfl)⟩
  · have hltz : ¬ ((N : Int) < (n : Int)) := by omega
    have e2 : IntKind.i64.wrap ((N : Int) - 0) = N := by rw [IntKind.wrap_i64]; omega
    go_enter Tryd.func42, Tryd.ntmps42
    go_wp2_with fail
    refine (sourceRead_eof base s n _ _ sp _ a0 a1 HSE.out HS.out hn).mono ?_
    rintro e w1 ⟨rfl, m, rfl⟩
    go_wp2_with fail
    go_ret2
    have hb := (HL.out.drewN m).set_ 1 (.int .i64 N)
    exact ⟨rfl, hb, (HS.out.keep ((Chg.refl NoB w).drewN m)).chg ((Chg.refl (fun b => b = g) _).setCell (p := ⟨g, 1, none⟩) _ (fun _ => rfl)) (fun e => hgs e.symm) (fun b hb e => by omega), ((Chg.refl _ w).drewN m).setCell (p := ⟨g, 1, none⟩) _ (fun _ => rfl)⟩
set_option maxRecDepth 100000 in
set_option maxHeartbeats 1000000 in
theorem limRead_some (base g s gb n N : Nat) (xs zs : List Int) (sp : Int) (w : World) (hl : Lim w g s N) (hN : 0 < N) (hN2 : N ≤ 1048576) (hs : Src w base s xs sp) (ho : Own w base 5 .u8 (.slice (some ⟨gb, 0, none⟩) n n) zs) (hzn : n = zs.length) (hn : 0 < n) (hx : 0 < xs.length) (hxl : xs.length ≤ 2097152) (hgs : g ≠ s) (hgb : g ≠ gb) (hsb : s ≠ gb) (hbg : base ≤ g) (hbs : base ≤ s) (hn2 : n ≤ 1048576) :
    Calls Tryd.prog 42 #[.pointer (some ⟨g, 0, none⟩), .slice (some ⟨gb, 0, none⟩) n n] w (LimGot base g s gb n n N xs zs sp w) := by
  have c0 := hl.cell 0
  have c1 := hl.cell 1
  simp only [List.getElem?_cons_zero, List.getElem?_cons_succ] at c0 c1
  have HL := As.mk hl
  have HZN := As.mk hzn
  have HRD : As (∀ n0 c0, 0 < n0 → n0 ≤ n → n0 ≤ c0 → Calls Tryd.prog 36 #[.pointer (some ⟨s, 0, none⟩), .slice (some ⟨gb, 0, none⟩) n0 c0] w (GotSome 5 w base s gb n 0 n0 xs zs sp)) :=
    ⟨fun n0 c0 h0 h1 h2 => sourceRead_some 5 base s gb n 0 n0 c0 xs zs sp w hs (by rw [← hzn]; exact ho) hsb hbs h0 (by omega) h2 hx hxl (by omega)⟩
  have HFIN : As (∀ k w', 1 ≤ k → k ≤ n → k ≤ N → k ≤ xs.length → Src w' base s (xs.drop k) sp → Own w' base 5 .u8 (.slice (some ⟨gb, 0, none⟩) zs.length n) (splice zs 0 (xs.take k)) → Chg (fun b => b = s ∨ b = gb) w w' → LimGot base g s gb n n N xs zs sp w (.returned (.tuple #[.int .i64 k, .nilIface])) (w'.setCell ⟨g, 1, none⟩ (.int .i64 ((N - k : Nat) : Int)))) :=
    ⟨fun k w' h1 h2 h3 h4 h5 h6 h7 => by
      have hb := (hl.chg h7 (fun e => by rcases e with e | e <;> omega)).set_ 1 (.int .i64 ((N - k : Nat) : Int))
      have hc := (Chg.refl (fun b => b = g) w').setCell (p := ⟨g, 1, none⟩) (.int .i64 ((N - k : Nat) : Int)) (fun _ => rfl)
      exact ⟨k, h1, h2, h3, h4, rfl, hb, h5.chg hc (fun e => hgs e.symm) (fun b hb e => by omega), by rw [hzn]; rw [hzn] at h6; exact own_chg h6 hc (fun b hb e => by simp [Value.ownBlock] at hb; omega), (h7.mono (fun i _ e => Or.inr e)).setCell (p := ⟨g, 1, none⟩) _ (fun _ => Or.inl rfl)⟩⟩
  clear hl hs ho hzn
  have na := nil_aheadR
  have mr := method_read
  have hN0 : (0 : Int) < (N : Int) := by omega
  have HLC : As (∀ w', Chg (fun b => b = s ∨ b = gb) w w' → w'.cell? ⟨g, 1, none⟩ = some (.int .i64 N) ∧ w'.frozen? ⟨g, 1, none⟩ = false) := ⟨fun w' h => by
    have b := HL.out.chg h (fun e => by rcases e with e | e <;> omega)
    exact ⟨b.cell 1, b.frozen 1⟩⟩
  by_cases hlt : N < n
  · have hltz : (N : Int) < (n : Int) := by omega
    have e1 : IntKind.i64.wrap (N : Int) = N := by rw [IntKind.wrap_i64]; omega
    have hle : N ≤ n := by omega
    go_enter Tryd.func42, Tryd.ntmps42
    go_wp2_with fail
    refine (HRD.out N _ hN hle (by omega)).mono ?_
    rintro e w1 ⟨k, h1, h2, h3, rfl, hs1, ho1, hc1⟩
    have HK := As.mk (HFIN.out k w1 h1 (by omega) h2 h3 hs1 ho1 hc1)
    have hcl := HLC.out w1 hc1
    have d1 := hcl.1
    have z1 := hcl.2
    have e2 : IntKind.i64.wrap ((N : Int) - (k : Int)) = ((N - k : Nat) : Int) := by rw [IntKind.wrap_i64]; omega
    clear hcl hs1 ho1 hc1 c0 c1
    go_wp2_with fail
    go_ret2
    exact HK.out
  · have hltz : ¬ ((N : Int) < (n : Int)) := by omega
    go_enter Tryd.func42, Tryd.ntmps42
    go_wp2_with fail
    refine (HRD.out n _ hn (Nat.le_refl _) (by omega)).mono ?_
    rintro e w1 ⟨k, h1, h2, h3, rfl, hs1, ho1, hc1⟩
    have HK := As.mk (HFIN.out k w1 h1 (by omega) (by omega) h3 hs1 ho1 hc1)
    have hcl := HLC.out w1 hc1
    have d1 := hcl.1
    have z1 := hcl.2
    have e2 : IntKind.i64.wrap ((N : Int) - (k : Int)) = ((N - k : Nat) : Int) := by rw [IntKind.wrap_i64]; omega
    clear hcl hs1 ho1 hc1 c0 c1
    go_wp2_with fail
    go_ret2
    exact HK.out
end Go.Proofs.YtalbaapbiopamaaDoor
