/- The contracts of the methods of encoding.MPI and of impl.field over it. -/
import Derived.Test.YtllcfihbepmphaaDoorMpi
import Derived.Test.YtllcfihbepmphaaDoorV3
import Derived.Test.YtllcfihbepmphaaDoorBase
import Derived.Laws.ResultCell
set_option linter.unusedVariables false
set_option linter.unusedSimpArgs false
namespace Go.Proofs.YtllcfihbepmphaaDoor
open Go.RowKit V
set_option maxHeartbeats 1000000 in
theorem mpiBytes_any (g : Nat) (A : Option Addr) (n c : Nat) (B : Int) (w : World) (hb : Blk w g 120 [.slice A n c, .int .u16 B]) :
    Calls Tryd.prog 85 #[.pointer (some ⟨g, 0, none⟩)] w fun e w' => e = .returned (.slice A n c) ∧ w' = w := by
  have c0 := hb.cell 0
  simp only [List.getElem?_cons_zero] at c0
  go_enter Tryd.func85, Tryd.ntmps85
  go_wp2
  go_ret
  exact ⟨rfl, rfl⟩
set_option maxHeartbeats 1000000 in
theorem mpiBits_any (g : Nat) (v : Value) (B : Int) (w : World) (hb : Blk w g 120 [v, .int .u16 B]) :
    Calls Tryd.prog 84 #[.pointer (some ⟨g, 0, none⟩)] w fun e w' => e = .returned (.int .u16 B) ∧ w' = w := by
  have c0 := hb.cell 1
  simp only [List.getElem?_cons_zero, List.getElem?_cons_succ] at c0
  go_enter Tryd.func84, Tryd.ntmps84
  go_wp2
  go_ret
  exact ⟨rfl, rfl⟩
set_option maxHeartbeats 1000000 in
theorem mpiLen_any (g : Nat) (A : Option Addr) (n c : Nat) (B : Int) (w : World) (hb : Blk w g 120 [.slice A n c, .int .u16 B]) (hn : n ≤ 65533) :
    Calls Tryd.prog 87 #[.pointer (some ⟨g, 0, none⟩)] w fun e w' => e = .returned (.int .u16 (2 + (n : Int))) ∧ w' = w := by
  have c0 := hb.cell 0
  simp only [List.getElem?_cons_zero] at c0
  go_enter Tryd.func87, Tryd.ntmps87
  go_wp2
  go_ret
  exact ⟨rfl, rfl⟩
set_option maxRecDepth 100000 in
set_option maxHeartbeats 1000000 in
theorem mpiEnc_any (g : Nat) (A : Option Addr) (n c : Nat) (B : Nat) (ys : List Int) (w : World) (hb : Blk w g 120 [.slice A n c, .int .u16 (B : Int)]) (hB : B ≤ 65535) (hn : n = ys.length) (hy : Rb w A ys) (hl : n ≤ 65533) (hi lo : Int) (hhi : hi = (B : Int) / 256) (hlo : lo = (B : Int) % 256) :
    Calls Tryd.prog 86 #[.pointer (some ⟨g, 0, none⟩)] w fun e w' => ∃ v, e = .returned v ∧ Ow w' w.heap.size 5 .u8 v ([hi, lo] ++ ys) ∧ Chg NoB w w' := by
  have c0 := hb.cell 0
  have c1 := hb.cell 1
  simp only [List.getElem?_cons_zero, List.getElem?_cons_succ] at c0 c1
  have hgl := hb.lt
  have HY := As.mk hy
  have HN := As.mk hn
  have hw1 : IntKind.u8.wrap ((B : Int) / 256) = hi := by rw [hhi]; simp [IntKind.wrap, IntKind.bits, IntKind.signed]; omega
  have hw2 : IntKind.u8.wrap (B : Int) = lo := by rw [hlo]; simp [IntKind.wrap, IntKind.bits, IntKind.signed]
  clear hb hy hn hhi hlo
  go_enter Tryd.func86, Tryd.ntmps86
  go_wp2_with fail
  go_region_law? (first
    | (refine step_append_ow (N := 19) rfl rfl _ _ 22 rfl 5 .u8 1 Tryd.underlying22 info8 (by decide) (.slice (some ⟨w.heap.size, 0, none⟩) 2 2) w.heap.size [hi, lo] ys A n c ?hs rfl HN.out (ow_of ?ho) (HY.out.keep ?hc) ?hz (by have := HN.out; simp; omega) ?_
       case hs => rfl
       case ho => exact own_keep (own_lit w w.heap.size 5 .u8 [hi, lo] (Nat.le_refl _) (by simp [maxLen])) ((Chg.refl NoB _).drew)
       case hc => repeat (first | exact Chg.refl _ _ | (with_reducible apply Chg.drew) | (with_reducible apply Chg.alloc))
       case hz => refine Chg.size (S := NoB) (w := w) ?_; repeat (first | exact Chg.refl _ _ | (with_reducible apply Chg.drew) | (with_reducible apply Chg.alloc))
       intro v19 w19 ho19 hc19
       have HO19 := As.mk ho19
       have HC19 : As (Chg NoB w w19) := ⟨Chg.over (by repeat (first | exact Chg.refl _ _ | (with_reducible apply Chg.drew) | (with_reducible apply Chg.alloc))) hc19 (Nat.le_refl _)⟩
       clear ho19 hc19))
  all_goals
    go_wp2
    go_ret
    exact ⟨v19, rfl, HO19.out, HC19.out⟩
end Go.Proofs.YtllcfihbepmphaaDoor
