/- The contracts of packet.serializeLength (any length), serializeType and serializeHeader over a sink, where the doors Zz.. are not reached. -/
import Derived.Test.YtalbaapbiopamaaDoorWLen2
set_option linter.unusedVariables false
set_option linter.unusedSimpArgs false
namespace Go.Proofs.YtalbaapbiopamaaDoor
open Go.RowKit V
theorem serializeLength_any (base g n : Nat) (xs : List Int) (w : World) (hs : Sink w base g xs) (hg : g < base) (hb : base ≤ w.heap.size) (hl : xs.length ≤ 1048576) (hn : n ≤ 4294967295) :
    Calls Tryd.prog 17 #[.iface 42 (.pointer (some ⟨g, 0, none⟩)), .int .i64 n] w (WroteOk w base g (xs ++ lenL n)) := by
  by_cases h1 : n < 192
  · exact serializeLength_small base g n xs w hs hg hb hl h1
  · by_cases h2 : n < 8384
    · exact serializeLength_mid base g n xs w hs hg hb hl (by omega) h2
    · exact serializeLength_great base g n xs w hs hg hb hl (by omega) hn
theorem or192N : ∀ t : Nat, t < 64 → bits BinOp.or .u8 192 (t : Int) = 192 + (t : Int) := by decide +kernel
theorem or192 {t : Int} (h : 0 ≤ t) (h2 : t < 64) : bits BinOp.or .u8 192 t = 192 + t := by
  obtain ⟨n, rfl⟩ := Int.eq_ofNat_of_zero_le h
  exact or192N n (by omega)
set_option maxRecDepth 100000 in
set_option maxHeartbeats 1000000 in
theorem serializeType_any (base g : Nat) (tag : Int) (xs : List Int) (w : World) (hs : Sink w base g xs) (hg : g < base) (hb : base ≤ w.heap.size) (hl : xs.length ≤ 1048576) (hn : 0 ≤ tag) (hn2 : tag < 64) :
    Calls Tryd.prog 16 #[.iface 42 (.pointer (some ⟨g, 0, none⟩)), .int .u8 tag] w (WroteOk w base g (xs ++ [192 + tag])) := by
  have HS := As.mk hs
  have na := nil_ahead
  have mw := method_write
  have hbits := or192 hn hn2
  clear hs
  generalize hz : 192 + tag = z at *
  go_enter Tryd.func16, Tryd.ntmps16
  go_wp2_with fail
  go_region_law (first
    | (go_simp
       refine (sinkWrite_any base g 1 1 (some ⟨w.heap.size, 0, none⟩) xs [z] _ rfl (HS.out.alloc _).drew hg ?hb1 ?hb2 ?hl1).mono ?_
       case hb1 => simp; omega
       case hb2 => exact (rb_blk (xs := [z]) (Blk.new w _ _) (by simp) 1).drew
       case hl1 => simp; omega
       rintro e20 w20 ⟨rfl, hs20, hc20⟩
       have HS20 := As.mk hs20
       have HC20 := As.mk hc20
       clear hs20 hc20))
  all_goals
    go_wp2
    go_ret
    exact ⟨rfl, HS20.out, (((Chg.refl _ w).alloc _).drew).trans HC20.out (fun _ _ e => e)⟩
set_option maxRecDepth 100000 in
set_option maxHeartbeats 1000000 in
theorem serializeHeader_any (base g n : Nat) (tag : Int) (xs : List Int) (w : World) (hs : Sink w base g xs) (hg : g < base) (hb : base ≤ w.heap.size) (hl : xs.length ≤ 1048575) (ht : 0 ≤ tag) (ht2 : tag < 64) (hn : n ≤ 4294967295) :
    Calls Tryd.prog 13 #[.iface 42 (.pointer (some ⟨g, 0, none⟩)), .int .u8 tag, .int .i64 n] w (WroteOk w base g (xs ++ ([192 + tag] ++ lenL n))) := by
  have HS := As.mk hs
  have hap : As (xs ++ (192 + tag) :: lenL n = xs ++ [192 + tag] ++ lenL n) := ⟨by simp⟩
  clear hs
  go_enter Tryd.func13, Tryd.ntmps13
  go_wp2_with fail
  refine (serializeType_any base g tag xs _ HS.out hg hb (by omega) ht ht2).mono ?_
  rintro e w1 ⟨rfl, hs1, hc1⟩
  have HS1 := As.mk hs1
  have HC1 := As.mk hc1
  have hb1 := Nat.le_trans hb hc1.size
  clear hs1 hc1
  go_wp2_with fail
  refine (serializeLength_any base g n (xs ++ [192 + tag]) _ HS1.out hg hb1 (by simp; omega) hn).mono ?_
  rintro e w2 ⟨rfl, hs2, hc2⟩
  have HS2 := As.mk hs2
  have HC2 := As.mk (HC1.out.trans hc2 (fun _ _ e => e))
  clear hs2 hc2
  go_wp2_with fail
  go_ret
  exact ⟨rfl, by rw [hap.out]; exact HS2.out, HC2.out⟩
end Go.Proofs.YtalbaapbiopamaaDoor
