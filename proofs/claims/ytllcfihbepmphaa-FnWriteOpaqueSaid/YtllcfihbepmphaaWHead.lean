/- The contracts of packet.serializeType, serializeHeader, ZzSerializeHeader over a sink, of impl.WriteHead and spec.NewHead; the walk of FnWriteHead. -/
import Derived.Test.YtllcfihbepmphaaWLen4
set_option linter.unusedVariables false
set_option linter.unusedSimpArgs false
namespace Go.Proofs.Ytllcfihbepmphaa
open Go.RowKit V
theorem or192N : ∀ t : Nat, t < 64 → bits BinOp.or .u8 192 (t : Int) = 192 + (t : Int) := by decide +kernel
theorem or192 {t : Int} (h : 0 ≤ t) (h2 : t < 64) : bits BinOp.or .u8 192 t = 192 + t := by
  obtain ⟨n, rfl⟩ := Int.eq_ofNat_of_zero_le h
  exact or192N n (by omega)
set_option maxRecDepth 100000 in
set_option maxHeartbeats 1000000 in
theorem serializeType_any (base g : Nat) (tag : Int) (xs : List Int) (w : World) (hs : Sink w base g xs) (hg : g < base) (hb : base ≤ w.heap.size) (hl : xs.length ≤ 1048576) (hn : 0 ≤ tag) (hn2 : tag < 64) :
    Calls Try.prog 56 #[.iface 97 (.pointer (some ⟨g, 0, none⟩)), .int .u8 tag] w (WroteOk w base g (xs ++ [192 + tag])) := by
  have HS := As.mk hs
  have na := nil_ahead
  have mw := method_write
  have hbits := or192 hn hn2
  clear hs
  generalize hz : 192 + tag = z at *
  go_enter Try.func56, Try.ntmps56
  go_wp2_with fail
  go_region_law (first
    | (go_simp
       refine (sinkWrite_any base g 1 1 (some ⟨w.heap.size, 0, none⟩) xs [z] _ rfl (HS.out.alloc _).drew hg ?hb1 ?hb2 ?hl1).mono ?_
       case hb1 => simp; omega
       case hb2 => exact (rb_blk (xs := [z]) (Blk.new w _ _) (by simp) 1).drew
       case hl1 => simp; omega
       rintro e20 w20 ⟨rfl, hs20, hc20⟩
       have HS20 := As.mk hs20
       have HC20 := As.mk hc20
       clear hs20 hc20))
  all_goals
    go_wp2
    go_ret
    exact ⟨rfl, HS20.out, (((Chg.refl _ w).alloc _).drew).trans HC20.out (fun _ _ e => e)⟩
set_option maxRecDepth 100000 in
set_option maxHeartbeats 1000000 in
theorem serializeHeader_any (base g n : Nat) (tag : Int) (xs : List Int) (w : World) (hs : Sink w base g xs) (hg : g < base) (hb : base ≤ w.heap.size) (hl : xs.length ≤ 1048575) (ht : 0 ≤ tag) (ht2 : tag < 64) (hn : n ≤ 4294967295) :
    Calls Try.prog 44 #[.iface 97 (.pointer (some ⟨g, 0, none⟩)), .int .u8 tag, .int .i64 n] w (WroteOk w base g (xs ++ ([192 + tag] ++ lenL n))) := by
  have HS := As.mk hs
  have hap : As (xs ++ (192 + tag) :: lenL n = xs ++ [192 + tag] ++ lenL n) := ⟨by simp⟩
  clear hs
  go_enter Try.func44, Try.ntmps44
  go_wp2_with fail
  refine (serializeType_any base g tag xs _ HS.out hg hb (by omega) ht ht2).mono ?_
  rintro e w1 ⟨rfl, hs1, hc1⟩
  have HS1 := As.mk hs1
  have HC1 := As.mk hc1
  have hb1 := Nat.le_trans hb hc1.size
  clear hs1 hc1
  go_wp2_with fail
  refine (serializeLength_any base g n (xs ++ [192 + tag]) _ HS1.out hg hb1 (by simp; omega) hn).mono ?_
  rintro e w2 ⟨rfl, hs2, hc2⟩
  have HS2 := As.mk hs2
  have HC2 := As.mk (HC1.out.trans hc2 (fun _ _ e => e))
  clear hs2 hc2
  go_wp2_with fail
  go_ret
  exact ⟨rfl, by rw [hap.out]; exact HS2.out, HC2.out⟩
set_option maxRecDepth 100000 in
set_option maxHeartbeats 1000000 in
theorem zzSerializeHeader_any (base g n : Nat) (tag : Int) (xs : List Int) (w : World) (hs : Sink w base g xs) (hg : g < base) (hb : base ≤ w.heap.size) (hl : xs.length ≤ 1048575) (ht : 0 ≤ tag) (ht2 : tag < 64) (hn : n ≤ 4294967295) :
    Calls Try.prog 30 #[.iface 97 (.pointer (some ⟨g, 0, none⟩)), .int .u8 tag, .int .i64 n] w (WroteOk w base g (xs ++ ([192 + tag] ++ lenL n))) := by
  have HS := As.mk hs
  clear hs
  go_enter Try.func30, Try.ntmps30
  go_wp2_with fail
  refine (serializeHeader_any base g n tag xs _ HS.out hg hb hl ht ht2 hn).mono ?_
  rintro e w1 ⟨rfl, hs1, hc1⟩
  have HS1 := As.mk hs1
  have HC1 := As.mk hc1
  clear hs1 hc1
  go_wp2_with fail
  go_ret
  exact ⟨rfl, HS1.out, HC1.out⟩
set_option maxRecDepth 100000 in
set_option maxHeartbeats 1000000 in
theorem writeHead_any (n : Nat) (tag : Int) (w : World) (ht : 0 ≤ tag) (ht2 : tag < 64) (hn : n ≤ 4294967295) :
    Calls Try.prog 16 #[.int .u8 tag, .int .i64 n] w fun e w' => ∃ v, e = .returned v ∧ Ow w' (w.heap.size + 1) 5 .u8 v ([192 + tag] ++ lenL n) ∧ Chg NoB w w' := by
  go_enter Try.func16, Try.ntmps16
  go_wp2_with fail
  refine (zzSerializeHeader_any (w.heap.size + 1) w.heap.size n tag [] _ ⟨_, Blk.new w _ [_], ow_empty _ _ _ _ _⟩ (by omega) (by simp) (by simp) ht ht2 hn).mono ?_
  rintro e w1 ⟨rfl, ⟨v, hbk, ho⟩, hc1⟩
  rw [List.nil_append] at ho
  obtain ⟨A1, c1, rfl, _, _⟩ := ow_form ho
  generalize hm : ([192 + tag] ++ lenL n).length = m at hbk ho
  have c0 := hbk.cell 0
  simp only [List.getElem?_cons_zero] at c0
  have HO := As.mk ho
  have HC : As (Chg NoB w w1) := ⟨((Chg.refl NoB w).alloc _).trans hc1 (fun i hi e => by rcases e with e | e <;> omega)⟩
  clear hbk ho hc1 hm
  go_wp2_with fail
  go_ret
  exact ⟨_, rfl, HO.out, HC.out⟩
theorem or192NI : ∀ t : Nat, t < 64 → bits BinOp.or .i64 192 (t : Int) = 192 + (t : Int) := by decide +kernel
theorem or192I {t : Int} (h : 0 ≤ t) (h2 : t < 64) : bits BinOp.or .i64 192 t = 192 + t := by
  obtain ⟨n, rfl⟩ := Int.eq_ofNat_of_zero_le h
  exact or192NI n (by omega)
set_option maxRecDepth 100000 in
set_option maxHeartbeats 1000000 in
theorem newHead_any (n : Nat) (tag : Int) (w : World) (ht : 0 ≤ tag) (ht2 : tag < 64) (hn : n ≤ 4294967295) :
    Calls Try.prog 17 #[.int .i64 tag, .int .i64 n] w fun e w' => ∃ v, e = .returned v ∧ Ow w' w.heap.size 5 .u8 v ([192 + tag] ++ lenL n) ∧ Chg NoB w w' := by
  have hbits := or192I ht ht2
  have hz1 : 0 ≤ 192 + tag := by omega
  have hz2 : 192 + tag ≤ 255 := by omega
  generalize hz : 192 + tag = z at *
  have HZ := As.mk hz
  have HSL : As (∀ w0, Calls Try.prog 15 #[.int .i64 n] w0 fun e w' => ∃ v, e = .returned v ∧ Ow w' w0.heap.size 5 .u8 v (lenL n) ∧ Chg NoB w0 w') := ⟨fun w0 => specLength_any n w0 hn⟩
  have HL := As.mk (lenL_length n)
  generalize lenL n = L at HSL HL ⊢
  clear hz
  go_enter Try.func17, Try.ntmps17
  go_wp2_with fail
  refine (HSL.out _).mono ?_
  rintro e w1 ⟨v1, rfl, ho1, hc1⟩
  obtain ⟨A1, c1, rfl, _, hr1⟩ := ow_form ho1
  have ho0 := own_keep (own_lit w w.heap.size 5 .u8 [z] (Nat.le_refl _) (by simp [maxLen])) hc1
  have HO0 : As (Ow w1 w.heap.size 5 .u8 (.slice (some ⟨w.heap.size, 0, none⟩) 1 1) [z]) := ⟨.inl ho0⟩
  have hc0 : Chg NoB w w1 := ((Chg.refl NoB w).alloc _).trans hc1 (fun _ _ e => e)
  have HC0 := As.mk hc0
  have HS0 := As.mk hc0.size
  have HR1 := As.mk hr1
  clear ho1 hc1 hr1 ho0 hc0
  go_wp2_with (at_builtin; refine wpList_append_ow rfl _ _ 22 rfl 5 .u8 1 Try.underlying22 info8 (by decide) _ w.heap.size [z] L A1 _ c1 rfl rfl rfl HO0.out HR1.out HS0.out (by have := HL.out; simp; omega) ?_; intro v2 w2 ho2 hc2)
  go_ret
  exact ⟨v2, rfl, ho2, Chg.over HC0.out hc2 (Nat.le_refl _)⟩
end Go.Proofs.Ytllcfihbepmphaa
