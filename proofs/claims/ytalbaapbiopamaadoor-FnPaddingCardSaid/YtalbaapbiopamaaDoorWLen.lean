/- The contract of packet.serializeLength over a sink. -/
import Derived.Test.YtalbaapbiopamaaDoorSink
import Derived.Test.YtalbaapbiopamaaDoorLenP
set_option linter.unusedVariables false
set_option linter.unusedSimpArgs false
namespace Go.Proofs.YtalbaapbiopamaaDoor
open Go.RowKit V
theorem rb_blk {w : World} {g : Nat} {t : TypeId} {xs : List Int} (h : Blk w g t (nums .u8 xs)) (hl : xs.length ≤ 1048576) (k : Nat) : Rb w (some ⟨g, 0, none⟩) (xs.take k) :=
  Rk.take_ ⟨by omega, fun hp => ⟨_, rfl, h.lt, fun j hj => by rw [add_lit0, h.cell j, nums_get hj]⟩⟩ k
/-- What a writer to a sink leaves that hands back no error. -/
def WroteOk (w : World) (base g : Nat) (xs : List Int) (e : Ending) (w' : World) : Prop :=
  e = .returned .nilIface ∧ Sink w' base g xs ∧ Chg (fun b => b = g ∨ base ≤ b) w w'
theorem Sink.alloc {w : World} {base g : Nat} {xs : List Int} (h : Sink w base g xs) (o : Obj) : Sink (w.alloc o) base g xs := by
  obtain ⟨v, h1, h2⟩ := h
  exact ⟨v, h1.alloc o, ow_keep h2 ((Chg.refl NoB w).alloc o)⟩
theorem Sink.drew {w : World} {base g : Nat} {xs : List Int} (h : Sink w base g xs) : Sink w.drew base g xs := by
  obtain ⟨v, h1, h2⟩ := h
  exact ⟨v, h1.drew, ow_keep h2 (Chg.refl NoB w).drew⟩
/- (the fuel: the number of types and 100) -/
theorem nil_ahead (a : Addr) (w : World) : (nilAhead 212 42 (.pointer (some a)) "Write").run Tryd.prog w = .ok (some false) w := by kernel_rfl
theorem method_write (a : Addr) (w : World) : (method 212 42 (.pointer (some a)) "Write").run Tryd.prog w = .ok (39, .pointer (some a)) w := by kernel_rfl
set_option maxRecDepth 100000 in
set_option maxHeartbeats 1000000 in
theorem serializeLength_small (base g n : Nat) (xs : List Int) (w : World) (hs : Sink w base g xs) (hg : g < base) (hb : base ≤ w.heap.size) (hl : xs.length ≤ 1048576) (hn : n < 192) :
    Calls Tryd.prog 17 #[.iface 42 (.pointer (some ⟨g, 0, none⟩)), .int .i64 n] w (WroteOk w base g (xs ++ lenL n)) := by
  have HS := As.mk hs
  have na := nil_ahead
  have mw := method_write
  clear hs
  go_enter Tryd.func17, Tryd.ntmps17
  go_wp2_with fail
  go_region_law (first
    | (go_simp
       refine (sinkWrite_any base g 1 5 (some ⟨w.heap.size, 0, none⟩) xs [(n : Int)] _ rfl (HS.out.alloc _).drew hg ?hb1 ?hb2 ?hl1).mono ?_
       case hb1 => simp; omega
       case hb2 => exact (rb_blk (xs := [(n : Int), 0, 0, 0, 0]) (Blk.new w _ _) (by simp) 1).drew
       case hl1 => simp; omega
       rintro e20 w20 ⟨rfl, hs20, hc20⟩
       have HS20 := As.mk hs20
       have HC20 := As.mk hc20
       clear hs20 hc20))
  all_goals
    go_wp2
    go_ret
    refine ⟨rfl, ?_, (((Chg.refl _ w).alloc _).drew).trans HC20.out (fun _ _ e => e)⟩
    have hL : lenL n = [(n : Int)] := by unfold lenL; rw [if_pos hn]
    rw [hL]
    exact HS20.out
end Go.Proofs.YtalbaapbiopamaaDoor
