/- The contract of spec.KeyParam. -/
import Derived.Test.YtdofkokeebgigaaDoorEcdhI
import Derived.Test.YtdofkokeebgigaaDoorEcdhS
import Derived.Lib.AppendStr
set_option linter.unusedVariables false
set_option linter.unusedSimpArgs false
namespace Go.Proofs.YtdofkokeebgigaaDoor
open Go.RowKit V
theorem wpList_append_str {P : Program} {ops : Array Oper} {rest : List Oper} {o : Oper} {a : Act} {Q : Exit → Act → World → Prop} {w : World} (hgd : o.guard = none) (s x : Operand) (t u : TypeId)
    (ho : o.op = .call { callee := .builtin .append, args := #[s, x], argTypes := #[t, u] })
    (e : TypeId) (i : TypeInfo) (ht : P.underlying t = some (.slice e)) (hu : P.underlying u = some .string) (hi : P.info? e = some i) (hz : i.zero = some (.int .u8 0)) (hsize : i.size = 1) (hby : i.bytes = 1)
    (v : Value) (base : Nat) (xs ys : List Int) (str : ByteArray) (hs : a.eval s = v) (hx : a.eval x = .string str) (HO : Own w base e .u8 v xs) (hys : Lib.strCells str = nums .u8 ys) (hbase : base ≤ w.heap.size) (hl : xs.length + str.size ≤ 1048576)
    (h : ∀ v1 w1, Own w1 base e .u8 v1 (xs ++ ys) → Chg (OvS base v) w w1 → wpList P ops Q rest (a.put o.dst v1) w1) :
    wpList P ops Q (o :: rest) a w := by
  obtain ⟨v1, w1, hr, h2, h3, _⟩ := Lib.run_append_own_string (P := P) (w := w) base t u o.type e i ht hu hi hz hsize hby v xs.length (nums .u8 xs) HO str (by simp only [maxLen]; omega) (by omega) hbase
  have hlen : str.size = ys.length := by
    have := congrArg List.length hys
    rw [nums_length] at this
    rw [← this]
    rw [Lib.strCells_length]
  refine wpList_plain hgd fun K hK => ?_
  unfold Oper.wp execOp
  simp only [ho, resolve, invoke, builtin, Sem.run_bind, Sem.run_pure, Result.andThen_ok, List.map_toArray, List.map_cons, List.map_nil, hs, hx, hr]
  refine hK _ _ (h v1 w1 ?_ ?_)
  · unfold Own
    rw [List.length_append, nums_append, ← hys, ← hlen]
    exact h2
  · exact (grown_chg h3).mono (fun b _ e => ⟨(own_block_lt HO b e).1, e⟩)
set_option maxRecDepth 100000 in
set_option maxHeartbeats 1000000 in
theorem keyParam_any (hid cid : Int) (OA : Option Addr) (on oc : Nat) (oid : List Int) (FA : Option Addr) (fn fc : Nat) (pr : List Int) (w : World) (ro : Rb w OA oid) (hon : on = oid.length) (ho2 : on ≤ 100) (rf : Rb w FA pr) (hfn : fn = pr.length) (hf : fn ≤ 20) :
    Calls Tryd.prog 11 #[.slice OA on oc, .int .u8 hid, .int .u8 cid, .slice FA fn fc] w fun e w' => (∃ A m c, e = .returned (.slice A m c) ∧ m = (paramL ((on : Int) :: oid) hid cid pr).length ∧ Rb w' A (paramL ((on : Int) :: oid) hid cid pr)) ∧ Chg NoB w w' := by
  have RO := As.mk ro
  have RF := As.mk rf
  have HL := As.mk (And.intro hon hfn)
  have how : IntKind.u8.wrap (on : Int) = (on : Int) := by simp [IntKind.wrap, IntKind.bits, IntKind.signed]; omega
  clear ro rf hon hfn
  go_enter Tryd.func11, Tryd.ntmps11
  have hal : Chg NoB w (w.alloc (.cells #[.int .u8 on] 5)) := (Chg.refl NoB w).alloc _
  obtain ⟨i5, hi5, hz5, hs5, hb5⟩ := info_parts (info8)
  go_wp2_with (first
    | ((with_reducible refine gate (N := 15) rfl ?_)
       refine wpList_append_ow rfl _ _ 22 rfl 5 .u8 1 Tryd.underlying22 info8 (by decide) _ w.heap.size [(on : Int)] oid OA on oc rfl rfl HL.out.1 (ow_of (own_lit w w.heap.size 5 .u8 [(on : Int)] (Nat.le_refl _) (by simp [maxLen]))) (RO.out.keep hal) hal.size (by have := HL.out; simp only [List.length_cons, List.length_nil]; omega) ?_
       intro v1 w1 ho1 hc1
       have HO1 := As.mk ho1
       have C1 : As (Chg NoB w w1) := ⟨hal.trans hc1 (fun b hb e => by have := e.1; omega)⟩
       clear ho1 hc1)
    | ((with_reducible refine gate (N := 20) rfl ?_)
       refine wpList_append_ow rfl _ _ 22 rfl 5 .u8 1 Tryd.underlying22 info8 (by decide) v1 w.heap.size ([(on : Int)] ++ oid) [18, 3, 1, hid, cid] (some ⟨w1.heap.size, 0, none⟩) 5 5 rfl rfl rfl (ow_keep HO1.out ((Chg.refl NoB w1).alloc _)) (own_reads (own_lit w1 0 5 .u8 [18, 3, 1, hid, cid] (Nat.zero_le _) (by simp [maxLen]))) (Nat.le_trans C1.out.size (((Chg.refl NoB w1).alloc _).size)) (by have := HL.out; simp only [List.length_append, List.length_cons, List.length_nil]; omega) ?_
       intro v2 w2 ho2' hc2
       have HO2 := As.mk (ow_own ho2' (by simp))
       have C2 : As (Chg NoB w w2) := ⟨(C1.out.alloc _).trans hc2 (fun b hb e => by have := e.1; omega)⟩
       clear ho2' hc2)
    | ((with_reducible refine gate (N := 22) rfl ?_)
       refine wpList_append_str rfl _ _ 22 9 rfl 5 i5 Tryd.underlying22 Tryd.underlying9 hi5 hz5 hs5 hb5 v2 w.heap.size ([(on : Int)] ++ oid ++ [18, 3, 1, hid, cid]) anon _ rfl rfl HO2.out (by rfl) C2.out.size (by have := HL.out; simp only [List.length_append, List.length_cons, List.length_nil]; show _ + 20 ≤ _; omega) ?_
       intro v3 w3 ho3 hc3
       have HO3 := As.mk ho3
       have C3 : As (Chg NoB w w3) := ⟨C2.out.trans hc3 (fun b hb e => by have := e.1; omega)⟩
       clear ho3 hc3)
    | ((with_reducible refine gate (N := 25) rfl ?_)
       refine wpList_append_ow rfl _ _ 22 rfl 5 .u8 1 Tryd.underlying22 info8 (by decide) v3 w.heap.size ([(on : Int)] ++ oid ++ [18, 3, 1, hid, cid] ++ anon) pr FA fn fc rfl rfl HL.out.2 (ow_of HO3.out) (RF.out.keep C3.out) C3.out.size (by have := HL.out; simp only [List.length_append, List.length_cons, List.length_nil, anon]; omega) ?_
       intro v4 w4 ho4 hc4
       have HO4 := As.mk ho4
       have C4 : As (Chg NoB w w4) := ⟨C3.out.trans hc4 (fun b hb e => by have := e.1; omega)⟩
       clear ho4 hc4))
  obtain ⟨A4, c4, hv4, _, hr4⟩ := ow_form HO4.out
  subst hv4
  go_wp2_with fail
  go_ret
  exact ⟨⟨A4, _, c4, rfl, rfl, hr4⟩, C4.out⟩
end Go.Proofs.YtdofkokeebgigaaDoor
