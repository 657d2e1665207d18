/- The contract of packet.serializeLength over a sink: two octets, five octets. -/
import Derived.Test.YtalbaapbiopamaaDoorWLen
set_option linter.unusedVariables false
set_option linter.unusedSimpArgs false
namespace Go.Proofs.YtalbaapbiopamaaDoor
open Go.RowKit V
set_option maxRecDepth 100000 in
set_option maxHeartbeats 1000000 in
theorem serializeLength_mid (base g n : Nat) (xs : List Int) (w : World) (hs : Sink w base g xs) (hg : g < base) (hb : base ≤ w.heap.size) (hl : xs.length ≤ 1048576) (hn : 192 ≤ n) (hn2 : n < 8384) :
    Calls Tryd.prog 17 #[.iface 42 (.pointer (some ⟨g, 0, none⟩)), .int .i64 n] w (WroteOk w base g (xs ++ lenL n)) := by
  have HS := As.mk hs
  have na := nil_ahead
  have mw := method_write
  clear hs
  go_enter Tryd.func17, Tryd.ntmps17
  go_wp2_with fail
  go_region_law (first
    | (go_simp
       refine (sinkWrite_any base g 2 5 (some ⟨w.heap.size, 0, none⟩) xs [192 + ((n : Int) - 192) / 256, ((n : Int) - 192) % 256] _ rfl (HS.out.alloc _).drew hg ?hb1 ?hb2 ?hl1).mono ?_
       case hb1 => simp; omega
       case hb2 => exact (rb_blk (xs := [192 + ((n : Int) - 192) / 256, ((n : Int) - 192) % 256, 0, 0, 0]) (Blk.new w _ _) (by simp) 2).drew
       case hl1 => simp; omega
       rintro e20 w20 ⟨rfl, hs20, hc20⟩
       have HS20 := As.mk hs20
       have HC20 := As.mk hc20
       clear hs20 hc20))
  all_goals
    go_wp2
    go_ret
    refine ⟨rfl, ?_, (((Chg.refl _ w).alloc _).drew).trans HC20.out (fun _ _ e => e)⟩
    have hL : lenL n = [192 + ((n : Int) - 192) / 256, ((n : Int) - 192) % 256] := by
      unfold lenL
      rw [if_neg (by omega), if_pos hn2, show ((n - 192 : Nat) : Int) = (n : Int) - 192 from by omega, Int.add_comm]
    rw [hL]
    exact HS20.out
set_option maxRecDepth 100000 in
set_option maxHeartbeats 1000000 in
theorem serializeLength_great (base g n : Nat) (xs : List Int) (w : World) (hs : Sink w base g xs) (hg : g < base) (hb : base ≤ w.heap.size) (hl : xs.length ≤ 1048576) (hn : 8384 ≤ n) (hn2 : n ≤ 4294967295) :
    Calls Tryd.prog 17 #[.iface 42 (.pointer (some ⟨g, 0, none⟩)), .int .i64 n] w (WroteOk w base g (xs ++ lenL n)) := by
  have HS := As.mk hs
  have na := nil_ahead
  have mw := method_write
  clear hs
  go_enter Tryd.func17, Tryd.ntmps17
  go_wp2_with fail
  go_region_law (first
    | (go_simp
       refine (sinkWrite_any base g 5 5 (some ⟨w.heap.size, 0, none⟩) xs [255, (n : Int) / 16777216, (n : Int) / 65536 % 256, (n : Int) / 256 % 256, (n : Int) % 256] _ rfl (HS.out.alloc _).drew hg ?hb1 ?hb2 ?hl1).mono ?_
       case hb1 => simp; omega
       case hb2 => exact (rb_blk (xs := [255, (n : Int) / 16777216, (n : Int) / 65536 % 256, (n : Int) / 256 % 256, (n : Int) % 256]) (Blk.new w _ _) (by simp) 5).drew
       case hl1 => simp; omega
       rintro e20 w20 ⟨rfl, hs20, hc20⟩
       have HS20 := As.mk hs20
       have HC20 := As.mk hc20
       clear hs20 hc20))
  all_goals
    go_wp2
    go_ret
    refine ⟨rfl, ?_, (((Chg.refl _ w).alloc _).drew).trans HC20.out (fun _ _ e => e)⟩
    have hL : lenL n = [255, (n : Int) / 16777216, (n : Int) / 65536 % 256, (n : Int) / 256 % 256, (n : Int) % 256] := by
      unfold lenL
      rw [if_neg (by omega), if_neg (by omega), show (n : Int) / 16777216 % 256 = (n : Int) / 16777216 from by omega]
    rw [hL]
    exact HS20.out
end Go.Proofs.YtalbaapbiopamaaDoor
