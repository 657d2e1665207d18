/- The walk of FnRevoked: no signatures revoke nothing; one that was made, and does not expire, revokes. -/
import Derived.Test.YtdcamebmbadmbaaRevoked
import Derived.Deep.DeepCutAuto
import Derived.Great.Walk
set_option linter.unusedVariables false
set_option linter.unusedSimpArgs false
namespace Go.Proofs.Ytdcamebmbadmbaa
open Go.RowKit V
/-- Every number of the list is a word of 32 bits. -/
def W32 (xs : List Int) : Prop := ∀ x ∈ xs, 0 ≤ x ∧ x ≤ 4294967295
def times (xs : List Int) : List (Int × Int) := xs.map fun x => (32, x)
theorem times_snoc (xs : List Int) (x : Int) : times (xs ++ [x]) = times xs ++ [(32, x)] := by simp [times]
theorem times_length (xs : List Int) : (times xs).length = xs.length := by simp [times]
theorem inBuilt (k t : Int) : Try.prog.built 41 [(0, .int .i64 4), (1, .int .u8 k), (7, .agg #[.bool true, .int .u64 t])] = some (inCells k t).toArray := by kernel_rfl
theorem inSlice (k t : Int) : Try.prog.builtSlice 41 1 [(0, .agg (inCells k t).toArray)] = some (inCells k t).toArray := by kernel_rfl
theorem inFold (k t : Int) : List.foldl (fun (cs : Array Value) (x : Value × Nat) => cs.setIfInBounds x.snd x.fst) inZero.toArray (inCells k t).zipIdx = (inCells k t).toArray := by kernel_rfl
theorem wp_built {P : Program} {o : Oper} {a : Act} {w : World} {K : Act → World → Prop} {Q : Exit → Act → World → Prop} (t : TypeId) (parts : Array (Nat × Operand)) (ho : o.op = .build t parts)
    (cells : Array Value) (hc : P.built t (parts.map fun (i, x) => (i, a.eval x)).toList = some cells) (h : K (a.put o.dst (.agg cells)) w) : o.wp P a w K Q :=
  wp_build t parts ho (by rw [hc]; rfl) (by rw [hc]; exact h)
theorem run_buildOne {P : Program} (w : World) (t e : TypeId) (hu : P.underlying t = some (.slice e)) (v : Value) (cells : Array Value) (hf : P.builtSlice e 1 [(0, v)] = some cells) :
    (Instr.buildSlice t 1 #[(0, v)]).run P w = .ok (.slice (some ⟨w.heap.size, 0, none⟩) 1 1) (w.alloc (.cells cells e)) := by
  unfold Program.builtSlice at hf
  cases hie : P.info? e with
  | none => simp [hie] at hf
  | some ie =>
    simp only [hie] at hf
    cases hz : ie.zero with
    | none => simp [hz] at hf
    | some z =>
      simp only [hz] at hf
      by_cases hc : 1 * ie.size > 2 ^ 24 ∨ 1 * ie.size = 0
      · simp only [if_pos hc] at hf; cases hf
      · rw [if_neg hc] at hf
        exact run_buildSlice w t e 1 #[(0, v)] cells ie z hu hie hz (fun h' => hc (Or.inl h')) (fun h' => hc (Or.inr h')) hf
theorem wp_buildOne {P : Program} {o : Oper} {a : Act} {w : World} {K : Act → World → Prop} {Q : Exit → Act → World → Prop} (t e : TypeId) (x : Operand) (ho : o.op = .buildSlice t 1 #[(0, x)])
    (hu : P.underlying t = some (.slice e)) (v : Value) (hx : a.eval x = v) (cells : Array Value) (hf : P.builtSlice e 1 [(0, v)] = some cells)
    (h : K (a.put o.dst (.slice (some ⟨w.heap.size, 0, none⟩) 1 1)) (w.alloc (.cells cells e))) : o.wp P a w K Q := by
  unfold Oper.wp execOp
  simp only [ho, Sem.run_bind, List.map_toArray, List.map_cons, List.map_nil, hx, run_buildOne w t e hu v cells hf, Result.andThen_ok]
  exact h
/-- A slice literal of one element. -/
theorem wpList_buildOne {P : Program} {ops : Array Oper} {rest : List Oper} {o : Oper} {a : Act} {w : World} {Q : Exit → Act → World → Prop} (hg : o.guard = none) (t e : TypeId) (x : Operand) (ho : o.op = .buildSlice t 1 #[(0, x)])
    (hu : P.underlying t = some (.slice e)) (v : Value) (hx : a.eval x = v) (cells : Array Value) (hf : P.builtSlice e 1 [(0, v)] = some cells)
    (h : wpList P ops Q rest (a.put o.dst (.slice (some ⟨w.heap.size, 0, none⟩) 1 1)) (w.alloc (.cells cells e))) : wpList P ops Q (o :: rest) a w :=
  Great.wpList_buildSliceTo hg t e 1 _ ho w.heap.size rfl o.dst rfl hu cells (by simpa [hx] using hf) h
theorem SRow.snoc {w1 : World} {base : Nat} {v1 : Value} {l : List (Int × Int)} {p : Int × Int}
    (h2 : w1.ownsRow base 41 45 v1 (l.length + 1) ((l.flatMap fun p => inCells p.1 p.2) ++ inCells p.1 p.2)) : SRow w1 base v1 (l ++ [p]) := by
  unfold SRow
  rw [List.length_append, List.flatMap_append]
  simpa using h2
theorem SRow.one (w : World) (base : Nat) (k t : Int) (hb : base ≤ w.heap.size) : SRow (w.alloc (.cells (inCells k t).toArray 41)) base (.slice (some ⟨w.heap.size, 0, none⟩) 1 1) [(k, t)] := by
  have h := World.ownsRow_lit (base := base) (e := 41) (size := 45) w (inCells k t).toArray 1 hb (by decide) (by rfl)
  simpa [SRow] using h
set_option maxRecDepth 100000 in
set_option maxHeartbeats 800000 in
theorem fnRevoked_walk (A : Option Addr) (c : Nat) (xs : List Int) (nw : Int) (W : World) (hx : Rk .u32 W A xs) (hc : xs.length ≤ c) (hb : W32 xs) (hl : xs.length ≤ 140737488351232) (wf : (Lit.int .u32 nw).wf = true) :
    Calls Try.prog 4 #[.slice A xs.length c, .int .u32 nw] W fun e w' => e = .returned (.bool true) ∧ Below W.heap.size W w' := by
  obtain ⟨n, hn⟩ : ∃ n, n = xs.length := ⟨_, rfl⟩
  rw [← hn] at hc hl
  rw [← hn]
  have HX := As.mk hx
  have HN := As.mk hn
  have HB := As.mk hb
  have m := wf_u32_lt wf
  have m0 := m.1
  have m1 := m.2
  clear hx hn hb m wf
  by_cases h1 : n ≤ 100
  · have hzz : ((n : Int) > 2147483647) = False := by simp; omega
    have hz2 : ((n : Int) > 100) = False := by simp; omega
    have e1 : IntKind.u64.wrap nw = nw := by rw [IntKind.wrap_u64]; omega
    go_enter Try.func4, Try.ntmps4
    go_wp2_with fail
    go_loopw [5, 6, 8, 18] (fun lv md _ i w' => ∃ (k : Nat) (rv : Value), rv = lv ∧ i = .int .i64 k ∧ k ≤ n ∧ md = .bool (anyBy (times (xs.take k)) nw) ∧ As (SRow w' W.heap.size rv (times (xs.take k))) ∧ As (Chg NoB W w')) (fun _ _ _ i _ => n - (intOf i).toNat)
    case atStart => exact ⟨0, _, rfl, rfl, Nat.zero_le _, rfl, ⟨World.ownsRow_nil _ _ _ _⟩, ⟨Chg.refl _ _⟩⟩
    case round =>
      obtain ⟨k, rv, rfl, rfl, hk, rfl, HSV, HC'⟩ := hrel
      by_cases hlt : k < n
      · have hltz : (k : Int) < (n : Int) := by omega
        obtain ⟨x, hxx⟩ : ∃ x, x = xs[k]'(by have := HN.out; omega) := ⟨_, rfl⟩
        have HTK : As (xs.take (k + 1) = xs.take k ++ [x]) := ⟨by rw [hxx]; exact List.take_succ_eq_append_getElem _⟩
        have HP : As (0 ≤ x ∧ x ≤ 4294967295) := ⟨by rw [hxx]; exact HB.out _ (List.getElem_mem _)⟩
        obtain ⟨ad, eA, hcx⟩ := (HX.out.keep HC'.out).at_ (k : Int) (by omega) (by have := HN.out; omega)
        have hrd : rd xs (k : Int) = x := by rw [hxx]; simp [rd, List.getD_eq_getElem?_getD, List.getElem?_eq_getElem (show k < xs.length by have := HN.out; omega)]
        rw [hrd, Int.toNat_natCast] at hcx
        subst eA
        have e2 : IntKind.u64.wrap x = x := by rw [IntKind.wrap_u64]; have := HP.out; omega
        clear hrd hxx
        obtain ⟨md, hmd⟩ : ∃ md, md = anyBy (times (xs.take k)) nw := ⟨_, rfl⟩
        rw [← hmd]
        have HM : As ((md || decide (x ≤ nw)) = anyBy (times (xs.take (k + 1))) nw) := ⟨by rw [HTK.out, times_snoc, anyBy_snoc, hmd]⟩
        have HLT : As ((times (xs.take k)).length = k) := ⟨by rw [times_length, List.length_take]; have := HN.out; omega⟩
        clear hmd
        go_upto_region 10 with fail
        go_cut [6] (fun m wx => m = .bool (anyBy (times (xs.take (k + 1))) nw) ∧ wx = wr)
        case first =>
          cases md
          · by_cases hle : x ≤ nw
            · have hdd : decide (x ≤ nw) = true := by simpa using hle
              go_upto_region 11 with fail
              go_meet
              exact ⟨by rw [← HM.out]; simp [hdd], rfl⟩
            · have hdd : decide (x ≤ nw) = false := by simpa using hle
              go_upto_region 11 with fail
              go_meet
              exact ⟨by rw [← HM.out]; simp [hdd], rfl⟩
          · go_upto_region 11 with fail
            go_meet
            exact ⟨by rw [← HM.out]; rfl, rfl⟩
        case rest =>
          obtain ⟨rfl, rfl⟩ := hcut
          have HVO := As.mk (show wc.ownsRow W.heap.size 41 45 rv k ((times (xs.take k)).flatMap fun p => inCells p.1 p.2) from by have h := HSV.out; unfold SRow at h; rwa [HLT.out] at h)
          have HRB : As (∀ b, rv.ownBlock = some b → W.heap.size ≤ b ∧ b < wc.heap.size) := ⟨fun b hb => HVO.out.lt b hb⟩
          go_wp2_with (first
            | ((with_reducible refine gate (N := 32) rfl ?_); refine wpList_built rfl 41 _ rfl (inCells 32 x).toArray ?hc ?_; (case hc => simpa [Act.eval] using inBuilt 32 x))
            | ((with_reducible refine gate (N := 33) rfl ?_); refine wpList_buildOne rfl 28 41 _ rfl Try.underlying28 (.agg (inCells 32 x).toArray) rfl (inCells 32 x).toArray (inSlice 32 x) ?_)
            | (at_builtin; refine wpList_append_s rfl _ _ 28 rfl 41 45 (.agg inZero.toArray) 568 Try.underlying28 infoSig rfl (by decide) (by decide) rv W.heap.size k ((times (xs.take k)).flatMap fun p => inCells p.1 p.2) ⟨wc.heap.size, 0, none⟩ 1 (inCells 32 x) rfl rfl ?k1 rfl ?k2 (inOne 32 x) ?k4 ?k5 ?_))
          (case k1 => exact row_keep HVO.out ((Chg.refl _ _).alloc _))
          (case k2 => exact (Blk.new wc _ (inCells 32 x)).news)
          (case k4 => exact Nat.le_trans HC'.out.size (Chg.size ((Chg.refl NoB wc).alloc _)))
          (case k5 => omega)
          intro v2 w3 h2 h3 h5
          have hal := (Chg.refl NoB wc).alloc (.cells (inCells 32 x).toArray 41)
          have HSV2 : As (SRow w3 W.heap.size v2 (times (xs.take (k + 1)))) := ⟨by
            rw [HTK.out, times_snoc]
            exact SRow.snoc (by rw [HLT.out]; exact h2)⟩
          have HC3 := As.mk ((HC'.out.trans hal (fun _ _ e => e)).trans (S' := fun b => rv.ownBlock = some b) (grown_chg h3) (fun i hi e => absurd (HRB.out i e).1 (by omega)))
          clear h2 h3 h5 hal
          go_wp2_with fail
          go_roundw
          case rel => exact ⟨k + 1, _, rfl, by simp, by omega, rfl, HSV2, HC3⟩
          case measure => show n - ((k : Int) + 1).toNat < n - ((k : Int)).toNat; omega
      · have hz : ¬ ((k : Int) < (n : Int)) := by omega
        have hkn : k = n := by omega
        have hxk : xs.take k = xs := by rw [hkn, HN.out, List.take_length]
        rw [hxk] at HSV
        simp only [hxk]
        have HTL : As ((times xs).length = n) := ⟨by rw [times_length, HN.out]⟩
        have HT : As (∀ p ∈ times xs, 0 ≤ p.2 ∧ p.2 ≤ 4294967296) := ⟨fun p hp => by
          obtain ⟨x, hx, rfl⟩ := List.mem_map.1 hp
          have := HB.out x hx
          simp only
          omega⟩
        obtain ⟨md, hmd⟩ : ∃ md, md = anyBy (times xs) nw := ⟨_, rfl⟩
        simp only [← hmd]
        have HIR := As.mk (implRevoked_any W.heap.size rv (times xs) nw wr HSV.out (by rw [HTL.out]; omega) HT.out m0 (by omega))
        rw [← hmd] at HIR
        obtain ⟨A', c', rfl, hnc', _, _⟩ := HSV.out.at_
        rw [HTL.out] at hnc'
        simp only [HTL.out] at *
        by_cases h0 : n = 0
        · have HMD : As (md = false) := ⟨by rw [hmd]; have : xs = [] := List.eq_nil_of_length_eq_zero (by rw [← HN.out]; exact h0); rw [this]; rfl⟩
          rw [HMD.out] at HIR
          rw [HMD.out]
          clear hkn hxk hmd
          subst h0
          have e3 : IntKind.u64.wrap (nw + 1) = nw + 1 := by rw [IntKind.wrap_u64]; omega
          go_wp2_with fail
          refine HIR.out.mono ?_
          rintro e w2 ⟨rfl, hc2⟩
          have HC2 := As.mk (HC'.out.trans hc2 (fun _ _ e => e))
          clear hc2
          have hl45 : (inCells 32 nw).length = 45 := rfl
          have hfold := inFold 32 nw
          simp only [inZero] at hfold
          go_wp2_with fail
          refine wp_built 41 _ rfl (inCells 32 nw).toArray ?hc ?_
          case hc => (simp [Act.eval]; exact inBuilt 32 nw)
          go_wp2_with fail
          have HS1 := As.mk (SRow.one w2 w2.heap.size 32 nw (Nat.le_refl _))
          refine (implRevoked_any w2.heap.size (.slice (some ⟨w2.heap.size, 0, none⟩) 1 1) [(32, nw)] (nw + 1) _ HS1.out (by simp) (fun p hp => by simp at hp; subst hp; simp only; omega) (by omega) (by omega)).mono ?_
          rintro e w3 ⟨rfl, hc3⟩
          have HC3 := As.mk (HC2.out.trans (((Chg.refl NoB w2).alloc _).trans hc3 (fun _ _ e => e)) (fun _ _ e => e))
          clear hc3
          have hb1 : anyBy [(32, nw)] (nw + 1) = true := by simp [anyBy]; omega
          rw [hb1]
          go_wp2_with fail
          go_ret
          exact ⟨rfl, HC3.out.below (Nat.le_refl _) (fun _ _ e => e)⟩
        · have h0' : ((n : Int) = 0) = False := by simp; omega
          clear hkn hxk hmd
          go_wp2_with fail
          refine HIR.out.mono ?_
          rintro e w2 ⟨rfl, hc2⟩
          have HC2 := As.mk (HC'.out.trans hc2 (fun _ _ e => e))
          clear hc2
          cases md
          · go_wp2_with fail
            go_ret
            exact ⟨rfl, HC2.out.below (Nat.le_refl _) (fun _ _ e => e)⟩
          · go_wp2_with fail
            go_ret
            exact ⟨rfl, HC2.out.below (Nat.le_refl _) (fun _ _ e => e)⟩
  · have h2 : (100 : Int) < (n : Int) := by omega
    by_cases h3 : n ≤ 2147483647
    · go_enter Try.func4, Try.ntmps4
      go_wp2_with fail
      go_ret
      exact ⟨rfl, Below.refl _ _⟩
    · have h4 : (2147483647 : Int) < (n : Int) := by omega
      go_enter Try.func4, Try.ntmps4
      go_wp2_with fail
      go_ret
      exact ⟨rfl, Below.refl _ _⟩
end Go.Proofs.Ytdcamebmbadmbaa
