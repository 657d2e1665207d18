/- The contract of (*impl.source).Read: at most so many bytes at once, into a row of the call's own. -/
import Derived.Test.YtalbaapbiopamaaDoorProg
import Derived.Test.YtalbaapbiopamaaDoorDoor
import Derived.Test.YtalbaapbiopamaaDoorBase
set_option linter.unusedVariables false
set_option linter.unusedSimpArgs false
namespace Go.Proofs.YtalbaapbiopamaaDoor
open Go.RowKit V
/-- A source at s that has xs left, and hands out sp at once; what it has lies in older blocks than base. -/
def Src (w : World) (base s : Nat) (xs : List Int) (sp : Int) : Prop :=
  ∃ A c, Blk w s 36 [.slice A xs.length c, .int .i64 sp] ∧ xs.length ≤ c ∧ Rb w A xs ∧ (∀ ad, A = some ad → 0 < xs.length → ad.block < base)
theorem Src.chg {S : Nat → Prop} {w w' : World} {base s : Nat} {xs : List Int} {sp : Int} (h : Src w base s xs sp) (hc : Chg S w w') (h1 : ¬ S s) (h2 : ∀ b, b < base → ¬ S b) : Src w' base s xs sp := by
  obtain ⟨A, c, hb, hl, hr, ha⟩ := h
  refine ⟨A, c, hb.chg hc h1, hl, ⟨hr.1, fun hp => ?_⟩, ha⟩
  obtain ⟨ad, e, hlt, hcell⟩ := hr.2 hp
  have hbs := ha ad e hp
  exact ⟨ad, e, Nat.lt_of_lt_of_le hlt hc.size, fun j hj => (hc.cell (p := ad.add j) (by rw [add_block]; exact hlt) (by rw [add_block]; exact h2 _ hbs)).trans (hcell j hj)⟩
theorem Src.keep {w w' : World} {base s : Nat} {xs : List Int} {sp : Int} (h : Src w base s xs sp) (hc : Chg NoB w w') : Src w' base s xs sp := h.chg hc (fun e => e) (fun _ _ e => e)
/-- What a read leaves that gives some bytes. -/
def GotSome (et : TypeId) (w : World) (base s gb cap off n : Nat) (xs zs : List Int) (sp : Int) (e : Ending) (w' : World) : Prop :=
  ∃ k : Nat, 1 ≤ k ∧ k ≤ n ∧ k ≤ xs.length ∧ e = .returned (.tuple #[.int .i64 k, .nilIface]) ∧ Src w' base s (xs.drop k) sp ∧ Own w' base et .u8 (.slice (some ⟨gb, 0, none⟩) zs.length cap) (splice zs off (xs.take k)) ∧ Chg (fun b => b = s ∨ b = gb) w w'
set_option maxRecDepth 100000 in
set_option maxHeartbeats 1000000 in
theorem sourceRead_eof (base s n c : Nat) (A : Option Addr) (sp : Int) (w : World) (a0 a1 : Addr) (hS : Sent w a0 a1) (hs : Src w base s [] sp) (hn : 0 < n) :
    Calls Tryd.prog 36 #[.pointer (some ⟨s, 0, none⟩), .slice A n c] w fun e w' => e = .returned (.tuple #[.int .i64 0, .iface 88 (.pointer (some a0))]) ∧ ∃ m, w' = w.drewN m := by
  obtain ⟨A1, c1, hb, _, _, _⟩ := hs
  have hne : ((n : Int) == 0) = false := by simp; omega
  have s0 := hb.cell 0
  simp only [List.getElem?_cons_zero, List.length_nil] at s0
  have g0 := hS.1
  clear hb hS
  go_enter Tryd.func36, Tryd.ntmps36
  go_wp2_with fail
  go_quiet (fail)
  go_wp2_with fail
  go_ret2
  exact ⟨rfl, nq, rfl⟩
end Go.Proofs.YtalbaapbiopamaaDoor
