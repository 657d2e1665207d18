/- The walk of FnPrimary. -/
import Derived.Test.YtdcamebmbadmbaaPrimQ
set_option linter.unusedVariables false
set_option linter.unusedSimpArgs false
namespace Go.Proofs.Ytdcamebmbadmbaa
open Go.RowKit V
set_option maxRecDepth 100000 in
set_option maxHeartbeats 8000000 in
theorem fnPrimary_main (A : Option Addr) (n c : Nat) (xs : List Int) (W : World) (HX : As (Rb W A xs)) (HN : As (n = xs.length)) (HB : As (Byt xs)) (hc : n ≤ c) (hl : n ≤ 20) (hz0 : 0 < n) :
    Calls Try.prog 3 #[.slice A n c] W fun e w' => e = .returned (.bool true) ∧ Below W.heap.size W w' := by
  have h1 : ((n : Int) == 0) = false := by simp; omega
  have h2 : ¬ (20 : Int) < (n : Int) := by omega
  have h3 : ¬ (2147483647 : Int) < (n : Int) := by omega
  go_enter Try.func3, Try.ntmps3
  go_wp2_with fail
  obtain ⟨hb, hhb⟩ : ∃ hb, hb = W.heap.size := ⟨_, rfl⟩
  simp only [← hhb]
  have HB0 : As (Blk (W.alloc (.cells #[.int .i64 0, .int .u64 0, .int .u8 0, .slice none 0 0, .slice none 0 0, .int .u64 0, .int .i64 0, .bool false, .bool false, .slice none 0 0, .slice none 0 0, .slice none 0 0, .slice none 0 0, .slice none 0 0] 31)) hb 31 (hCells (.slice none 0 0))) := ⟨by rw [hhb]; exact Blk.new W _ (hCells (.slice none 0 0))⟩
  have HHB := As.mk hhb
  clear hhb
  go_loopw [4, 5, 6, 7, 8, 9, 10, 11, 27] (fun bv mv _ _ _ _ _ _ i w' => ∃ (k : Nat) (l : List Idn) (iv bv' mv' : Value), i = .int .i64 k ∧ bv' = bv ∧ mv' = mv ∧ k ≤ n ∧ As (PInv W hb k l iv bv' mv' w')) (fun _ _ _ _ _ _ _ _ i _ => n - (intOf i).toNat)
  case atStart => exact ⟨0, [], _, _, _, rfl, rfl, rfl, Nat.zero_le _, ⟨rfl, IRow.nil _ _, HB0.out, Good.nil _, BestOf.nil, (Chg.refl _ _).alloc _⟩⟩
  case round =>
    clear HB0
    obtain ⟨k, l, iv, bv, mv, rfl, rfl, rfl, hk, HI⟩ := hrel
    obtain ⟨hlk, hir, hbk, hgd, hbest, hchg⟩ := HI.out
    have HLK := As.mk hlk
    have HIR := As.mk hir
    have HBK := As.mk hbk
    have HGD := As.mk hgd
    have HBE := As.mk hbest
    have HC := As.mk hchg
    obtain ⟨A', c', rfl, hnc', _, _⟩ := hir.at_
    rw [hlk] at hnc'
    have i9 : wr.cell? ⟨hb, 9, none⟩ = some (.slice A' l.length c') := hbk.cell 9
    have z9 := hbk.frozen 9
    rw [hlk] at i9
    clear hlk hir hbk hgd hbest hchg HI
    by_cases hlt : k < n
    · have hltz : (k : Int) < (n : Int) := by omega
      obtain ⟨ad, eA, hcx⟩ := (HX.out.keep HC.out).at_ (k : Int) (by omega) (by have := HN.out; omega)
      have hm8 := HB.out.rd (k : Int)
      obtain ⟨m, hm⟩ : ∃ m : Nat, (m : Int) = rd xs (k : Int) := ⟨(rd xs (k : Int)).toNat, by omega⟩
      rw [← hm, Int.toNat_natCast] at hcx
      rw [← hm] at hm8
      subst eA
      clear hm
      have hm256 : m < 256 := by omega
      obtain ⟨at_, hat, hat2⟩ := at_of k m
      obtain ⟨w1, w2, w3⟩ := w_of k m (by omega) hm256
      go_upto_region 12 with fail
      clear w1 w2 w3 hat hcx
      go_loopw [9, 41] (fun _ i w' => ∃ j : Nat, i = .int .i64 j ∧ j ≤ k ∧ As (∀ i' it, i' < j → l[i']? = some it → it.t ≠ 1000 + (at_ : Int)) ∧ w' = wr) (fun _ i _ => k - (intOf i).toNat)
      case atStart => exact ⟨0, rfl, Nat.zero_le _, ⟨fun i' it h => by omega⟩, rfl⟩
      case round =>
        obtain ⟨j, rfl, hj, HJ, rfl⟩ := hrel
        by_cases hjk : j < k
        · have hjz : (j : Int) < (k : Int) := by omega
          obtain ⟨it, hit⟩ : ∃ it, l[j]? = some it := ⟨_, List.getElem?_eq_getElem (by have := HLK.out; omega)⟩
          obtain ⟨_, _, e1, _, _, hat⟩ := HIR.out.at_
          injection e1 with e1 e2 e3
          obtain ⟨g, b1, b2, eA, hglt, hrg, hsrc⟩ := hat j it hit
          rw [← e1] at eA
          subst eA
          have hs1 : wr.cell? ⟨g, j * 4 + 1, none⟩ = some (.slice (some ⟨b1, 0, none⟩) 1 1) := hrg 1 _ rfl
          have hs2 : wr.cell? ⟨b1, 8, none⟩ = some (.int .u64 it.t) := hsrc.1.cell 8
          have hok := (HGD.out.ok it (List.mem_of_getElem? hit)).1
          have wt := wt_of hok
          have wa := wa_of at_ hat2
          have HIT := As.mk hit
          clear hat hrg hsrc e1 e2 e3 hok hit
          by_cases hte : it.t = 1000 + (at_ : Int)
          · have hteb : (it.t == 1000 + (at_ : Int)) = true := by simpa using hte
            clear hte
            go_wp2_with fail
            go_ret
            exact ⟨rfl, HC.out.below (Nat.le_refl _) (fun _ _ e => e)⟩
          · have hteb : (it.t == 1000 + (at_ : Int)) = false := by simpa using hte
            have HJ2 : As (∀ i' it, i' < j + 1 → l[i']? = some it → it.t ≠ 1000 + (at_ : Int)) := ⟨fun i' it' h hi => by
              by_cases e : i' = j
              · subst e; rw [HIT.out] at hi; injection hi with hi; rw [← hi]; exact hte
              · exact HJ.out i' it' (by omega) hi⟩
            clear hte
            go_wp2_with fail
            go_roundw
            case rel => exact ⟨j + 1, by simp, by omega, HJ2, trivial⟩
            case measure => show k - ((j : Int) + 1).toNat < k - ((j : Int)).toNat; omega
        · have hjz : ¬ ((j : Int) < (k : Int)) := by omega
          have HJ2 : As (∀ it ∈ l, it.t ≠ 1000 + (at_ : Int)) := ⟨fun it hit => by
            obtain ⟨i', hi'⟩ := List.getElem?_of_mem hit
            exact HJ.out i' it (by have := (List.getElem?_eq_some_iff.1 hi').1; have := HLK.out; omega) hi'⟩
          clear HJ
          obtain ⟨T, hT, hT2⟩ := T_of at_ hat2
          obtain ⟨wT, uT⟩ := small_of T hT2
          have hand := and1N m hm256
          obtain ⟨p, hp, hp2⟩ := P_of m
          rw [hp] at hand
          have uP := (small_of p hp2).2
          have hconv := nmConv wr k
          clear hT2 hp2
          go_upto_region 18 with (first
            | ((with_reducible refine gate (N := 72) rfl ?_); refine wpList_built rfl 41 _ rfl (inCellsP 19 T p).toArray ?hc ?_; (case hc => simpa [Act.eval] using inBuiltP T p))
            | ((with_reducible refine gate (N := 73) rfl ?_); refine wpList_buildOne rfl 28 41 _ rfl Try.underlying28 (.agg (inCellsP 19 T p).toArray) rfl (inCellsP 19 T p).toArray (inSliceP T p) ?_))
          obtain ⟨ub, hub⟩ : ∃ ub, ub = wr.heap.size + 1 + 1 := ⟨_, rfl⟩
          obtain ⟨b1, hb1⟩ : ∃ b1, b1 = wr.heap.size + 1 := ⟨_, rfl⟩
          simp only [← hub]
          simp only [← hb1]
          refine wp_world (fun w' => Blk w' b1 41 (inCellsP 19 T p) ∧ Blk w' ub 43 [.string (nmOf k), .slice (some ⟨b1, 0, none⟩) 1 1, .slice none 0 0, .slice none 0 0] ∧ Chg NoB wr w') ?hs ?_
          case hs =>
            have s1 : (wr.alloc (.cells #[.int .u8 (97 + (k : Int))] 5)).heap.size = b1 := by rw [hb1]; simp
            have s2 : ((wr.alloc (.cells #[.int .u8 (97 + (k : Int))] 5)).alloc (.cells (inCellsP 19 T p).toArray 41)).heap.size = ub := by rw [hub]; simp
            refine ⟨?_, ?_, (((Chg.refl _ _).alloc _).alloc _).alloc _⟩
            · have h := Blk.new (wr.alloc (.cells #[.int .u8 (97 + (k : Int))] 5)) 41 (inCellsP 19 T p)
              rw [s1] at h
              exact h.alloc _
            · have h := Blk.new ((wr.alloc (.cells #[.int .u8 (97 + (k : Int))] 5)).alloc (.cells (inCellsP 19 T p).toArray 41)) 43 [.string (nmOf k), .slice (some ⟨b1, 0, none⟩) 1 1, .slice none 0 0, .slice none 0 0]
              rw [s2] at h
              exact h
          intro wz hw
          have HS1 := As.mk hw.1
          have HU := As.mk hw.2.1
          have HCZ := As.mk hw.2.2
          have HBS : As (wr.heap.size ≤ b1 ∧ b1 < ub ∧ ub < wz.heap.size ∧ wr.heap.size ≤ ub) := ⟨by have := hw.2.1.lt; omega⟩
          clear hw hub hb1 hconv
          have i9z : wz.cell? ⟨hb, 9, none⟩ = some (.slice A' k c') := (HCZ.out.cell (p := ⟨hb, 9, none⟩) HBK.out.lt (fun e => e)).trans i9
          have hp01 := p_two m p hp
          have HPP := As.mk hp01
          have HTT := As.mk (t_of at_ T hT hat2)
          have hat3 := As.mk hT
          have q1 : wrap64 (p : Int) = p := wrap64_of _ (by rcases hp01 with h | h <;> rw [h] <;> decide) (by rcases hp01 with h | h <;> rw [h] <;> decide)
          have q2 := two_p p hp01
          obtain ⟨R0, hR, hR1⟩ := r0_of at_ p hp01 hat2
          have HR0 := As.mk (r0_is at_ T R0 p hT hR)
          have HR1 := As.mk hR1
          have q3 : wrap64 (R0 : Int) = R0 := wrap64_of _ (Int.natCast_nonneg _) (Int.ofNat_le.2 (Nat.le_trans hR1 (by decide)))
          clear hR1
          clear i9 hp01 uT uP hp wT hm8
          go_upto_region 19 with fail
          clear q1 q2 hR hand hT
          obtain ⟨rv, hrv⟩ : ∃ rv : Bool, rv = decide ((m : Int) / 2 % 2 = 1) := ⟨_, rfl⟩
          obtain ⟨it, hit⟩ : ∃ it : Idn, it = ⟨nmOf k, T, p, rv⟩ := ⟨_, rfl⟩
          have HIT := As.mk hit
          have HM8 : As (m < 256) := ⟨hm256⟩
          have u2 : wz.cell? ⟨ub, 2, none⟩ = some (.slice none 0 0) := HU.out.cell 2
          have zu2 := HU.out.frozen 2
          have hubz : ub < wz.heap.size := HBS.out.2.2.1
          have hubn : ub ≠ wz.heap.size := by omega
          have hubn2 : wz.heap.size ≠ ub := by omega
          obtain ⟨HA2, hHA2⟩ : ∃ q : Int, q = bits BinOp.and .u8 (m : Int) 2 := ⟨_, rfl⟩
          have HAQ : As (HA2 = if rv then 2 else 0) := ⟨by
            rw [hHA2, hrv]
            by_cases e : (m : Int) / 2 % 2 = 1
            · rw [and2a m HM8.out e]; simp [e]
            · rw [and2b m HM8.out e]; simp [e]⟩
          have hand2 : bits BinOp.and .u8 (m : Int) 2 = HA2 := hHA2.symm
          clear hHA2 hrv hit
          go_upto_if 83 with fail
          clear hand2
          go_cut [11] (fun rk wx => rk = .int .i64 (it.rank - 1000) ∧ ∃ b2 : Nat, As (Blk wx ub 43 (icells ((b1, b2), it)) ∧ IdSrc wx ((b1, b2), it) ∧ Chg NoB wr wx ∧ wr.heap.size ≤ b2 ∧ b2 < wx.heap.size))
          case first =>
            cases rv with
            | true =>
              have hq2 : HA2 = 2 := by rw [HAQ.out]; rfl
              have HRK := As.mk (rank_true (nmOf k) T p R0 HR0.out)
              have HUT := As.mk (u_true HS1.out HU.out HCZ.out HBS.out.2.2.2 HBS.out.2.1)
              subst hq2
              clear HAQ HS1 HU HCZ HIR HBK HGD HBE HC HX HB
              go_wp2_with (first
                | ((with_reducible refine gate (N := 85) rfl ?_); refine wpList_built rfl 41 _ rfl (inCells 48 5000).toArray ?hc ?_; (case hc => simpa [Act.eval] using inBuilt 48 5000))
                | ((with_reducible refine gate (N := 86) rfl ?_); refine wpList_buildOne rfl 28 41 _ rfl Try.underlying28 (.agg (inCells 48 5000).toArray) rfl (inCells 48 5000).toArray (inSlice 48 5000) ?_))
              go_meet
              exact ⟨by rw [HIT.out, ← HRK.out], wz.heap.size, ⟨by rw [HIT.out]; exact HUT.out⟩⟩
            | false =>
              have hq2 : HA2 = 0 := by rw [HAQ.out]; rfl
              have HRK := As.mk (rank_false (nmOf k) T p R0 HR0.out)
              have HUT := As.mk (u_false HS1.out HU.out HCZ.out HBS.out.1)
              have q4 := q4_of R0 HR1.out
              subst hq2
              clear HAQ HS1 HU HCZ HIR HBK HGD HBE HC HX HB
              go_wp2_with fail
              go_meet
              exact ⟨by rw [HIT.out, ← HRK.out], b1, ⟨by rw [HIT.out]; exact HUT.out⟩⟩
          case rest =>
            obtain ⟨hrk, b2, HUU⟩ := hcut
            clear u2 zu2 hubz hubn hubn2 i9z HAQ HR0 HR1 q3 HS1 HU HCZ
            obtain ⟨bB, M, hbv, hmv, hM0, hM1, hup, hst⟩ := HBE.out.num (fun i hi => (HGD.out.ok i hi).1)
            have HUP := As.mk (And.intro hup hst)
            clear hup hst HBE
            have hok : it.Ok := by rw [HIT.out]; exact idn_ok k T p rv HTT.out HPP.out
            have HOKI := As.mk hok
            obtain ⟨RK, hRK⟩ : ∃ RK : Int, RK = it.rank - 1000 := ⟨_, rfl⟩
            rw [← hRK] at hrk
            have HRK := As.mk hRK
            clear hok hRK
            subst hrk
            have i9c : wc.cell? ⟨hb, 9, none⟩ = some (.slice A' k c') := by
              have h : wr.cell? ⟨hb, 9, none⟩ = some (.slice A' l.length c') := HBK.out.cell 9
              rw [HLK.out] at h
              exact (HUU.out.2.2.1.cell (p := ⟨hb, 9, none⟩) HBK.out.lt (fun e => e)).trans h
            obtain ⟨ps, hps, hpo, hpi⟩ := HIR.out.keep HUU.out.2.2.1
            have HPS := As.mk hps
            have HPO : As (wc.ownsRow (hb + 1) 43 4 (.slice A' k c') k (ps.flatMap icells)) := ⟨by rw [HLK.out] at hpo; exact hpo⟩
            have HPI : As (∀ q ∈ ps, IdSrc wc q ∧ (Value.slice A' k c').ownBlock ≠ some q.1.1 ∧ (Value.slice A' k c').ownBlock ≠ some q.1.2 ∧ hb + 1 ≤ q.1.1 ∧ hb + 1 ≤ q.1.2 ∧ q.1.1 < wc.heap.size ∧ q.1.2 < wc.heap.size) := ⟨by rw [HLK.out] at hpi; exact hpi⟩
            have HRB : As (∀ b, (Value.slice A' k c').ownBlock = some b → hb + 1 ≤ b ∧ b < wr.heap.size) := ⟨fun b h => by
              have h2 := HIR.out
              obtain ⟨_, _, ho, _⟩ := h2
              rw [HLK.out] at ho
              exact ho.lt b h⟩
            have HBW : As (hb + 1 ≤ wr.heap.size) := ⟨by have := HBK.out.lt; omega⟩
            clear hps hpo hpi
            go_wp2_with (first
              | ((with_reducible refine gate (N := 92) rfl ?_); refine wpList_load_row rfl 43 _ rfl ub rfl 43 (icells ((b1, b2), it)).toArray (0, 0) _ HUU.out.1 Try.underlying43 rfl sizeIdn ?_)
              | ((with_reducible refine gate (N := 93) rfl ?_); refine wpList_buildOne rfl 27 43 _ rfl Try.underlying27 (.agg (icells ((b1, b2), it)).toArray) rfl (icells ((b1, b2), it)).toArray (inSliceI _) ?_)
              | (at_builtin; refine wpList_append_s rfl _ _ 27 rfl 43 4 (.agg #[.string ⟨#[]⟩, .slice none 0 0, .slice none 0 0, .slice none 0 0]) 88 Try.underlying27 infoIdn rfl (by decide) (by decide) (.slice A' k c') (hb + 1) k (ps.flatMap icells) ⟨wc.heap.size, 0, none⟩ 1 (icells ((b1, b2), it)) rfl rfl ?k1 rfl ?k2 (icells_one _) ?k4 ?k5 ?_))
            (case k1 => exact row_keep HPO.out ((Chg.refl _ _).alloc _))
            try (case k2 => exact (Blk.new wc _ (icells ((b1, b2), it))).news)
            (case k4 => (have := HBW.out; have := HUU.out.2.2.1.size; simp; omega))
            (case k5 => omega)
            intro v2 w3 h2 h3 h5
            have HIR3 : As (IRow w3 (hb + 1) v2 (l ++ [it])) := ⟨by
              have hal := (Chg.refl NoB wc).alloc (.cells (icells ((b1, b2), it)).toArray 43)
              have s4 : (wc.alloc (.cells (icells ((b1, b2), it)).toArray 43)).heap.size = wc.heap.size + 1 := by simp
              have hz := HUU.out.2.2.1.size
              have hbs := HBS.out
              have hub' := HUU.out.1.lt
              refine IRow.snoc (q := ((b1, b2), it)) HPS.out (fun q hq => ?_) ⟨?_, ?_, ?_, ?_, ?_, ?_, ?_⟩ (by rw [HLK.out]; exact h2) h3 (by rcases h5 with h | h; exact Or.inl h; exact Or.inr (h.trans (congrArg some s4.symm)))
              · obtain ⟨a, b, c, d, e, f, g⟩ := HPI.out q hq
                exact ⟨a.chg hal (fun e => e) (fun e => e), b, c, d, e, by omega, by omega⟩
              · exact HUU.out.2.1.chg hal (fun e => e) (fun e => e)
              · intro e; have := (HRB.out _ e).2; simp only at this; omega
              · intro e; have := (HRB.out _ e).2; have := HUU.out.2.2.2.1; simp only at *; omega
              · have := HBW.out; simp only; omega
              · have := HBW.out; have := HUU.out.2.2.2.1; simp only; omega
              · simp only; omega
              · have := HUU.out.2.2.2.2; simp only; omega⟩
            have HC3 : As (Chg (fun b => (Value.slice A' k c').ownBlock = some b) wr w3) := ⟨((HUU.out.2.2.1.trans ((Chg.refl NoB wc).alloc (.cells (icells ((b1, b2), it)).toArray 43)) (fun _ _ e => e)).mono (fun _ _ e => e.elim)).trans (grown_chg h3) (fun i hi e => e)⟩
            have HBK3 : As (Blk w3 hb 31 (hCells (.slice A' k c'))) := ⟨by
              have h := HBK.out.chg HC3.out (fun e => by have := (HRB.out _ e).1; omega)
              rw [HLK.out] at h
              exact h⟩
            obtain ⟨A2, c2, hv2, _, _, _⟩ := HIR3.out.at_
            subst hv2
            have hll : (l ++ [it]).length = k + 1 := by rw [List.length_append, HLK.out]; rfl
            rw [hll] at HIR3
            rw [hll]
            have j9 : w3.cell? ⟨hb, 9, none⟩ = some (.slice A' k c') := HBK3.out.cell 9
            have y9 := HBK3.out.frozen 9
            clear h2 h3 h5 i9c
            have HFIN : As (∀ bv' mv', BestOf (l ++ [it]) bv' mv' → PInv W hb (k + 1) (l ++ [it]) (.slice A2 (k + 1) c2) bv' mv' (w3.setCell ⟨hb, 9, none⟩ (.slice A2 (k + 1) c2))) := ⟨fun bv' mv' hbe =>
              ⟨hll, HIR3.out.put (by omega), HBK3.out.set_ 9 _, HGD.out.snoc HOKI.out (by rw [HIT.out]; exact nmOf_size k (by omega)) (by rw [HIT.out, HLK.out]) (fun j hj => by rw [HLK.out] at hj; rw [HLK.out]; exact nmOf_apart k (by omega) j hj) (fun x hx => by have h := HJ2.out x hx; rw [hat3.out] at h; rw [HIT.out]; exact h), hbe,
                (HC.out.trans HC3.out (fun i hi e => by have := (HRB.out _ e).1; have := HHB.out; omega)).setCell (p := ⟨hb, 9, none⟩) _ (fun h => absurd (show hb < W.heap.size from h) (by have := HHB.out; omega))⟩⟩
            clear hll
            by_cases hMR : M < RK
            · have HBN : As (BestOf (l ++ [it]) (.int .i64 k) (.int .i64 RK)) := ⟨by have h := HUP.out.1 it HOKI.out (by rw [← HRK.out]; exact hMR); rw [HLK.out, ← HRK.out] at h; exact h⟩
              subst hbv hmv
              go_wp2_with fail
              go_roundw
              case rel => exact ⟨k + 1, _, _, _, _, by simp, rfl, rfl, by omega, ⟨HFIN.out _ _ HBN.out⟩⟩
              case measure => show n - ((k : Int) + 1).toNat < n - ((k : Int)).toNat; omega
            · have HBN : As (BestOf (l ++ [it]) bv mv) := ⟨HUP.out.2 it HOKI.out (by rw [← HRK.out]; omega)⟩
              subst hbv hmv
              go_wp2_with fail
              go_roundw
              case rel => exact ⟨k + 1, _, _, _, _, by simp, rfl, rfl, by omega, ⟨HFIN.out _ _ HBN.out⟩⟩
              case measure => show n - ((k : Int) + 1).toNat < n - ((k : Int)).toNat; omega
    · have hkn : k = n := by omega
      have hz : ¬ ((k : Int) < (n : Int)) := by omega
      have hzn : ¬ ((n : Int) < (n : Int)) := by omega
      subst hkn
      have HLN : As (k = l.length) := ⟨HLK.out.symm⟩
      have HIR2 : As (IRow wr (hb + 1) (.slice A' k c') l) := ⟨by have h := HIR.out; rwa [HLK.out] at h⟩
      have HBK2 : As (Blk wr hb 31 (hCells (.slice A' k c'))) := ⟨by have h := HBK.out; rwa [HLK.out] at h⟩
      clear HIR HBK hz
      go_wp2_with ((with_reducible refine gate (N := 103) rfl ?_); refine wpList_load_row rfl 31 _ rfl hb rfl 31 (hCells (.slice A' k c')).toArray (0, 0) _ HBK2.out Try.underlying31 rfl sizeHold ?_)
      refine (primary_any (hb + 1) A' k c' l _ HIR2.out HLN.out hl hz0 HGD.out.ok HGD.out.apart HGD.out.times).mono ?_
      rintro e w2 ⟨m, rfl, htop, hc2⟩
      have htb := top_best HGD.out (fun e => by have := HLN.out; rw [e] at this; simp at this; omega) htop HBE.out
      have HC2 := As.mk (HC.out.trans hc2 (fun _ _ e => e))
      subst htb
      clear htop hc2
      go_wp2_with fail
      go_ret
      exact ⟨rfl, HC2.out.below (Nat.le_refl _) (fun _ _ e => e)⟩
end Go.Proofs.Ytdcamebmbadmbaa
