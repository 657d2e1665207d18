/- The contracts of packet.ZzSerializeLength and impl.WriteLength. -/
import Derived.Test.YtllcfihbepmphaaWLen2
set_option linter.unusedVariables false
set_option linter.unusedSimpArgs false
namespace Go.Proofs.Ytllcfihbepmphaa
open Go.RowKit V
theorem serializeLength_any (base g n : Nat) (xs : List Int) (w : World) (hs : Sink w base g xs) (hg : g < base) (hb : base ≤ w.heap.size) (hl : xs.length ≤ 1048576) (hn : n ≤ 4294967295) :
    Calls Try.prog 43 #[.iface 97 (.pointer (some ⟨g, 0, none⟩)), .int .i64 n] w (WroteOk w base g (xs ++ lenL n)) := by
  by_cases h1 : n < 192
  · exact serializeLength_small base g n xs w hs hg hb hl h1
  · by_cases h2 : n < 8384
    · exact serializeLength_mid base g n xs w hs hg hb hl (by omega) h2
    · exact serializeLength_great base g n xs w hs hg hb hl (by omega) hn
set_option maxRecDepth 100000 in
set_option maxHeartbeats 1000000 in
theorem zzSerializeLength_any (base g n : Nat) (xs : List Int) (w : World) (hs : Sink w base g xs) (hg : g < base) (hb : base ≤ w.heap.size) (hl : xs.length ≤ 1048576) (hn : n ≤ 4294967295) :
    Calls Try.prog 28 #[.iface 97 (.pointer (some ⟨g, 0, none⟩)), .int .i64 n] w (WroteOk w base g (xs ++ lenL n)) := by
  have HS := As.mk hs
  clear hs
  go_enter Try.func28, Try.ntmps28
  go_wp2_with fail
  refine (serializeLength_any base g n xs _ HS.out hg hb hl hn).mono ?_
  rintro e w1 ⟨rfl, hs1, hc1⟩
  have HS1 := As.mk hs1
  have HC1 := As.mk hc1
  clear hs1 hc1
  go_wp2_with fail
  go_ret
  exact ⟨rfl, HS1.out, HC1.out⟩
set_option maxRecDepth 100000 in
set_option maxHeartbeats 1000000 in
theorem writeLength_any (n : Nat) (w : World) (hn : n ≤ 4294967295) :
    Calls Try.prog 14 #[.int .i64 n] w fun e w' => ∃ v, e = .returned v ∧ Ow w' (w.heap.size + 1) 5 .u8 v (lenL n) ∧ Chg NoB w w' := by
  go_enter Try.func14, Try.ntmps14
  go_wp2_with fail
  refine (zzSerializeLength_any (w.heap.size + 1) w.heap.size n [] _ ⟨_, Blk.new w _ [_], ow_empty _ _ _ _ _⟩ (by omega) (by simp) (by simp) hn).mono ?_
  rintro e w1 ⟨rfl, ⟨v, hbk, ho⟩, hc1⟩
  rw [List.nil_append] at ho
  obtain ⟨A1, c1, rfl, _, _⟩ := ow_form ho
  generalize hm : (lenL n).length = m at hbk ho
  have c0 := hbk.cell 0
  simp only [List.getElem?_cons_zero] at c0
  have HO := As.mk ho
  have HC : As (Chg NoB w w1) := ⟨((Chg.refl NoB w).alloc _).trans hc1 (fun i hi e => by rcases e with e | e <;> omega)⟩
  clear hbk ho hc1 hm
  go_wp2_with fail
  go_ret
  exact ⟨_, rfl, HO.out, HC.out⟩
end Go.Proofs.Ytllcfihbepmphaa
