/- The contracts of (*packet.Signature).SetSalt, Salt and impl.SetSalt. -/
import Derived.Test.YtllcfihbepmphaaDoorEnd
import Derived.Test.YtllcfihbepmphaaDoorHashOf
import Derived.Test.YtllcfihbepmphaaDoorHashes
import Derived.Test.YtllcfihbepmphaaDoorBase
import Derived.Test.YtllcfihbepmphaaDoorSigZero
set_option linter.unusedVariables false
set_option linter.unusedSimpArgs false
namespace Go.Proofs.YtllcfihbepmphaaDoor
open Go.RowKit V
set_option maxRecDepth 100000 in
set_option maxHeartbeats 1000000 in
theorem sigSetSalt_other (g : Nat) (cs : List Value) (v : Int) (A : Option Addr) (n c : Nat) (w : World) (hb : Blk w g 92 cs) (h0 : cs[0]? = some (.int .i64 v)) (hv : (v == 6) = false) :
    Calls Tryd.prog 33 #[.pointer (some ⟨g, 0, none⟩), .slice A n c] w fun e w' => e = .returned .nilIface ∧ w' = w := by
  have c0 := hb.cell 0
  rw [h0] at c0
  go_enter Tryd.func33, Tryd.ntmps33
  go_wp2_with fail
  go_ret
  exact ⟨rfl, rfl⟩
set_option maxRecDepth 100000 in
set_option maxHeartbeats 1000000 in
theorem sigSetSalt_bad (g : Nat) (cs : List Value) (id : Int) (A : Option Addr) (n c : Nat) (w : World) (hid : IsId id) (hb : Blk w g 92 cs) (h0 : cs[0]? = some (.int .i64 6)) (h3 : cs[3]? = some (.int .u64 (goHash id))) (hn : ((n : Int) != saltLen id) = true) :
    Calls Tryd.prog 33 #[.pointer (some ⟨g, 0, none⟩), .slice A n c] w fun e w' => (∃ s, e = .returned (.iface 133 (.string s))) ∧ w' = w := by
  have c0 := hb.cell 0
  have c3 := hb.cell 3
  rw [h0] at c0
  rw [h3] at c3
  have HS := As.mk (fun w => saltLength_any id w hid)
  clear hb h0 h3 hid
  generalize goHash id = gh at *
  generalize saltLen id = L at *
  cases A with
  | none =>
    have nq := nilEq_none n c
    go_enter Tryd.func33, Tryd.ntmps33
    go_wp2_with fail
    refine (HS.out _).mono ?_
    rintro e w1 ⟨rfl, rfl⟩
    go_wp2_with fail
    go_ret
    exact ⟨⟨_, rfl⟩, rfl⟩
  | some a =>
    have nq := nilEq_some a n c
    go_enter Tryd.func33, Tryd.ntmps33
    go_wp2_with fail
    refine (HS.out _).mono ?_
    rintro e w1 ⟨rfl, rfl⟩
    go_wp2_with fail
    go_ret
    exact ⟨⟨_, rfl⟩, rfl⟩
set_option maxRecDepth 100000 in
set_option maxHeartbeats 1000000 in
theorem sigSetSalt_good (g : Nat) (cs : List Value) (id : Int) (a : Addr) (n c : Nat) (w : World) (hid : IsId id) (hb : Blk w g 92 cs) (h0 : cs[0]? = some (.int .i64 6)) (h3 : cs[3]? = some (.int .u64 (goHash id))) (h4 : cs[4]? = some (.slice none 0 0)) (hn : ((n : Int) != saltLen id) = false) :
    Calls Tryd.prog 33 #[.pointer (some ⟨g, 0, none⟩), .slice (some a) n c] w fun e w' => e = .returned .nilIface ∧ w' = w.setCell ⟨g, 4, none⟩ (.slice (some a) n c) := by
  have c0 := hb.cell 0
  have c3 := hb.cell 3
  have c4 := hb.cell 4
  have f4 := hb.frozen 4
  rw [h0] at c0
  rw [h3] at c3
  rw [h4] at c4
  have HS := As.mk (fun w => saltLength_any id w hid)
  clear hb h0 h3 h4 hid
  generalize goHash id = gh at *
  generalize saltLen id = L at *
  have nq := nilEq_some a n c
  go_enter Tryd.func33, Tryd.ntmps33
  go_wp2_with fail
  refine (HS.out _).mono ?_
  rintro e w1 ⟨rfl, rfl⟩
  go_wp2_with fail
  go_ret
  exact ⟨rfl, rfl⟩
set_option maxRecDepth 100000 in
set_option maxHeartbeats 1000000 in
theorem sigSalt_any (g : Nat) (cs : List Value) (v : Value) (w : World) (hb : Blk w g 92 cs) (h4 : cs[4]? = some v) (hv : ∃ A n c, v = .slice A n c) :
    Calls Tryd.prog 35 #[.pointer (some ⟨g, 0, none⟩)] w fun e w' => e = .returned v ∧ w' = w := by
  obtain ⟨A, n, c, rfl⟩ := hv
  have c4 := hb.cell 4
  rw [h4] at c4
  go_enter Tryd.func35, Tryd.ntmps35
  go_wp2_with fail
  go_ret
  exact ⟨rfl, rfl⟩
/-- What impl.SetSalt hands back: a row of its own, a number. -/
def Salted (w : World) (xs : List Int) (n : Int) (e : Ending) (w' : World) : Prop :=
  ∃ u, e = .returned (.tuple #[u, .int .i64 n]) ∧ Own w' w.heap.size 5 .u8 u xs ∧ Chg NoB w w'
set_option maxRecDepth 100000 in
set_option maxHeartbeats 2000000 in
theorem setSalt_other (v gh : Int) (A : Option Addr) (n c : Nat) (w : World) (hv : (v == 6) = false) (h0 : 0 ≤ gh) (h1 : gh ≤ 13) :
    Calls Tryd.prog 11 #[.int .i64 v, .int .i64 gh, .slice A n c] w (Salted w [] 0) := by
  go_enter Tryd.func11, Tryd.ntmps11
  go_wp2_with ((with_reducible refine gate (N := 13) rfl ?_); refine wpList_built rfl 92 _ rfl (sigCells v gh).toArray ?hc ?_; (case hc => simpa [Act.eval] using sigBuilt v gh))
  refine (sigSetSalt_other w.heap.size (sigCells v gh) v A n c _ ?hb ?h0 hv).mono ?_
  case hb => exact Blk.new w _ (sigCells _ gh)
  case h0 => rfl
  rintro e w1 ⟨rfl, rfl⟩
  go_wp2_with fail
  refine (sigSalt_any w.heap.size (sigCells v gh) (.slice none 0 0) _ ?hb ?h4 ⟨_, _, _, rfl⟩).mono ?_
  case hb => exact Blk.new w _ (sigCells _ gh)
  case h4 => rfl
  rintro e w2 ⟨rfl, rfl⟩
  go_wp2_with fail
  refine (own_any none 0 0 [] _ rfl Rk.none_ (by simp)).mono ?_
  rintro e w3 ⟨u, rfl, ho3, hc3⟩
  have HO3 := As.mk (own_lower ho3 (show w.heap.size ≤ _ by simp))
  have HC3 := As.mk (((Chg.refl NoB w).alloc _).trans hc3 (fun _ _ e => e))
  clear ho3 hc3
  go_wp2_with fail
  refine (end_nil _).mono ?_
  rintro e w4 ⟨rfl, rfl⟩
  go_wp2_with fail
  go_ret2
  exact ⟨u, rfl, HO3.out, HC3.out⟩
set_option maxRecDepth 100000 in
set_option maxHeartbeats 2000000 in
theorem setSalt_bad (id : Int) (A : Option Addr) (n c : Nat) (w : World) (hid : IsId id) (hn : ((n : Int) != saltLen id) = true) (a0 a1 : Addr) (hS : Sent w a0 a1) :
    Calls Tryd.prog 11 #[.int .i64 6, .int .i64 (goHash id), .slice A n c] w (Salted w [] 5) := by
  have hb : 0 ≤ goHash id ∧ goHash id ≤ 13 := by rcases hid with rfl | rfl | rfl | rfl | rfl | rfl <;> decide
  have hb0 := hb.1
  have hb1 := hb.2
  have HSS := As.mk (fun g cs w hb h0 h3 => sigSetSalt_bad g cs id A n c w hid hb h0 h3 hn)
  have HS := As.mk hS
  clear hb hid hn hS
  generalize goHash id = gh at *
  go_enter Tryd.func11, Tryd.ntmps11
  go_wp2_with ((with_reducible refine gate (N := 13) rfl ?_); refine wpList_built rfl 92 _ rfl (sigCells 6 gh).toArray ?hc ?_; (case hc => simpa [Act.eval] using sigBuilt 6 gh))
  refine (HSS.out w.heap.size (sigCells 6 gh) _ ?hb ?h0 ?h3).mono ?_
  case hb => exact Blk.new w _ (sigCells _ gh)
  case h0 => rfl
  case h3 => rfl
  rintro e w1 ⟨⟨s, rfl⟩, rfl⟩
  go_wp2_with fail
  refine (sigSalt_any w.heap.size (sigCells 6 gh) (.slice none 0 0) _ ?hb ?h4 ⟨_, _, _, rfl⟩).mono ?_
  case hb => exact Blk.new w _ (sigCells _ gh)
  case h4 => rfl
  rintro e w2 ⟨rfl, rfl⟩
  go_wp2_with fail
  refine (own_any none 0 0 [] _ rfl Rk.none_ (by simp)).mono ?_
  rintro e w3 ⟨u, rfl, ho3, hc3⟩
  have HO3 := As.mk (own_lower ho3 (show w.heap.size ≤ _ by simp))
  have HC3 := As.mk (((Chg.refl NoB w).alloc _).trans hc3 (fun _ _ e => e))
  clear ho3 hc3
  go_wp2_with fail
  refine (end_invalid s _ a0 a1 (HS.out.keep HC3.out)).mono ?_
  rintro e w4 ⟨rfl, rfl⟩
  go_wp2_with fail
  go_ret2
  exact ⟨u, rfl, HO3.out, HC3.out⟩
set_option maxRecDepth 100000 in
set_option maxHeartbeats 2000000 in
theorem setSalt_good (id : Int) (a : Addr) (n c : Nat) (xs : List Int) (w : World) (hid : IsId id) (hn : ((n : Int) != saltLen id) = false) (hx : Rb w (some a) xs) (hl : n = xs.length) (hl2 : n ≤ 1048576) :
    Calls Tryd.prog 11 #[.int .i64 6, .int .i64 (goHash id), .slice (some a) n c] w (Salted w xs 0) := by
  have hb : 0 ≤ goHash id ∧ goHash id ≤ 13 := by rcases hid with rfl | rfl | rfl | rfl | rfl | rfl <;> decide
  have hb0 := hb.1
  have hb1 := hb.2
  have HSS := As.mk (fun g cs w hb h0 h3 h4 => sigSetSalt_good g cs id a n c w hid hb h0 h3 h4 hn)
  have HX := As.mk hx
  have HL := As.mk hl
  clear hb hid hn hx hl
  generalize goHash id = gh at *
  go_enter Tryd.func11, Tryd.ntmps11
  go_wp2_with ((with_reducible refine gate (N := 13) rfl ?_); refine wpList_built rfl 92 _ rfl (sigCells 6 gh).toArray ?hc ?_; (case hc => simpa [Act.eval] using sigBuilt 6 gh))
  refine (HSS.out w.heap.size (sigCells 6 gh) _ ?hb ?h0 ?h3 ?h4).mono ?_
  case hb => exact Blk.new w _ (sigCells _ gh)
  case h0 => rfl
  case h3 => rfl
  case h4 => rfl
  rintro e w1 ⟨rfl, rfl⟩
  go_wp2_with fail
  refine (sigSalt_any w.heap.size ((sigCells 6 gh).set 4 (.slice (some a) n c)) (.slice (some a) n c) _ ?hb ?h4 ⟨_, _, _, rfl⟩).mono ?_
  case hb => exact Blk.new w _ ((sigCells 6 gh).set 4 (.slice (some a) n c))
  case h4 => rfl
  rintro e w2 ⟨rfl, rfl⟩
  have HC2 : As (Chg NoB w (w.alloc (.cells ((sigCells 6 gh).set 4 (.slice (some a) n c)).toArray 92))) := ⟨(Chg.refl NoB w).alloc _⟩
  go_wp2_with fail
  refine (own_any (some a) n c xs _ HL.out (HX.out.keep HC2.out) (by have := HL.out; omega)).mono ?_
  rintro e w3 ⟨u, rfl, ho3, hc3⟩
  have HO3 := As.mk (own_lower ho3 HC2.out.size)
  have HC3 := As.mk (HC2.out.trans hc3 (fun _ _ e => e))
  clear ho3 hc3
  go_wp2_with fail
  refine (end_nil _).mono ?_
  rintro e w4 ⟨rfl, rfl⟩
  go_wp2_with fail
  go_ret2
  exact ⟨u, rfl, HO3.out, HC3.out⟩
end Go.Proofs.YtllcfihbepmphaaDoor
