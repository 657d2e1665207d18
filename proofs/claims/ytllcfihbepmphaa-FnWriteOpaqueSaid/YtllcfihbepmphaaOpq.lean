/- The contracts of (*packet.OpaquePacket).Serialize over a sink and of impl.WriteOpaque. -/
import Derived.Test.YtllcfihbepmphaaWHead
set_option linter.unusedVariables false
set_option linter.unusedSimpArgs false
namespace Go.Proofs.Ytllcfihbepmphaa
open Go.RowKit V
set_option maxRecDepth 100000 in
set_option maxHeartbeats 1000000 in
theorem opaqueSerialize_any (base g o n c : Nat) (tag : Int) (A : Option Addr) (xs ys : List Int) (w : World) (hs : Sink w base g xs) (hg : g < base) (ho : o < base) (hog : o ≠ g) (hb : base ≤ w.heap.size)
    (hbk : Blk w o 104 [.int .u8 tag, .nilIface, .slice A n c]) (hn : n = ys.length) (ry : ∀ w', Chg (fun b => b = g ∨ base ≤ b) w w' → Rb w' A ys) (hx : xs.length ≤ 1048570) (hl : n ≤ 1048576) (ht : 0 ≤ tag) (ht2 : tag < 64) :
    Calls Try.prog 31 #[.pointer (some ⟨o, 0, none⟩), .iface 97 (.pointer (some ⟨g, 0, none⟩))] w (WroteOk w base g (xs ++ ([192 + tag] ++ lenL n) ++ ys)) := by
  have HS := As.mk hs
  have HB := As.mk hbk
  have RY := As.mk ry
  have HN := As.mk hn
  have na := nil_ahead
  have mw := method_write
  have c0 := hbk.cell 0
  have c2 := hbk.cell 2
  simp only [List.getElem?_cons_zero, List.getElem?_cons_succ] at c0 c2
  have HL := As.mk (lenL_length n)
  have HXL := As.mk hx
  have hso : ¬ (o = g ∨ base ≤ o) := by omega
  clear hs hbk ry hn hx
  obtain ⟨L, hL⟩ : ∃ L, L = [192 + tag] ++ lenL n := ⟨_, rfl⟩
  have HH : As (∀ w0, Sink w0 base g xs → base ≤ w0.heap.size → Calls Try.prog 44 #[.iface 97 (.pointer (some ⟨g, 0, none⟩)), .int .u8 tag, .int .i64 n] w0 (WroteOk w0 base g (xs ++ L))) :=
    ⟨fun w0 h1 h2 => by rw [hL]; exact serializeHeader_any base g n tag xs w0 h1 hg h2 (by have := HXL.out; omega) ht ht2 (by omega)⟩
  have HLL : As (L.length ≤ 6) := ⟨by rw [hL]; have := HL.out; simp; omega⟩
  rw [← hL]
  clear hL HL
  go_enter Try.func31, Try.ntmps31
  go_wp2_with fail
  go_still_tail 10, (by kernel_rfl)
  change wpList _ _ _ _ _ (World.drew w)
  go_wp2_with fail
  refine (HH.out _ HS.out.drew hb).mono ?_
  rintro e15 w15 ⟨rfl, hs15, hc15⟩
  have HS15 := As.mk hs15
  have HC15 : As (Chg (fun b => b = g ∨ base ≤ b) w w15) := ⟨((Chg.refl _ w).drew).trans hc15 (fun _ _ e => e)⟩
  clear hs15 hc15
  have b15 := HB.out.chg HC15.out hso
  have c15 := b15.cell 2
  simp only [List.getElem?_cons_zero, List.getElem?_cons_succ] at c15
  have HY15 := As.mk (RY.out _ HC15.out)
  have HZ15 : As (base ≤ w15.heap.size) := ⟨Nat.le_trans hb HC15.out.size⟩
  clear b15
  go_wp2_with fail
  go_region_law (first
    | (go_simp
       refine (sinkWrite_any base g n c A (xs ++ L) ys _ HN.out HS15.out.drew hg ?hb1 HY15.out.drew ?hl1).mono ?_
       case hb1 => exact HZ15.out
       case hl1 => (have := HN.out; have := HXL.out; have := HLL.out; simp; omega)
       rintro e20 w20 ⟨rfl, hs20, hc20⟩
       have HS20 := As.mk hs20
       have HC20 := As.mk hc20
       clear hs20 hc20))
  all_goals
    go_wp2
    go_ret
    exact ⟨rfl, HS20.out, (HC15.out.drew).trans HC20.out (fun _ _ e => e)⟩
end Go.Proofs.Ytllcfihbepmphaa
