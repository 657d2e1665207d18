/- The contracts of laws.zzFits2, spec.Joined, laws.twoReturns and spec.Canonical. (Printed by wip/canspec.py.) -/
import Derived.Test.YtmokepbmodmgeaaCanT
set_option linter.unusedVariables false
set_option linter.unusedSimpArgs false
namespace Go.Proofs.Ytmokepbmodmgeaa
open Go.RowKit V
def SomeBool (Q : Bool → Prop) (w : World) (e : Ending) (w' : World) : Prop := ∃ b, e = .returned (.bool b) ∧ w' = w ∧ Q b
set_option maxHeartbeats 400000 in
theorem fits2_any (A : Option Addr) (n c : Nat) (vs : List (Option Addr × Nat × Nat)) (w : World) (hn : n = vs.length) (hr : Rs w A vs) :
    Calls Try.prog 15 #[.slice A n c] w (SomeBool (fun _ => True) w) := by
  have HR := As.mk hr
  have hm : n ≤ 9223372036854775806 := by have := hr.1; omega
  have HN := As.mk hn
  clear hr hn
  go_enter Try.func15, Try.ntmps15
  by_cases hbig : 2147483647 < n
  · have hb2 : (2147483647 : Int) < (n : Int) := by omega
    go_wp2
    go_ret
    exact ⟨_, rfl, rfl, trivial⟩
  · have hb2 : ¬ (2147483647 : Int) < (n : Int) := by omega
    go_wp2
    go_loop [10] (fun i => ∃ k : Nat, k ≤ n ∧ i = .int .i64 k) (fun i => n - (intOf i).toNat)
    case atStart => exact ⟨0, Nat.zero_le _, rfl⟩
    case round =>
      obtain ⟨k, hk, rfl⟩ := hrel
      by_cases hlt : k < n
      · have hkv : k < vs.length := by have := HN.out; omega
        obtain ⟨ad, rfl, hc⟩ := HR.out.at_ k hkv
        generalize hq : vs[k].2.1 = q at *
        clear hq
        by_cases hle : 2147483647 < q
        · have hle2 : (2147483647 : Int) < (q : Int) := by omega
          go_wp2
          go_ret
          exact ⟨_, rfl, rfl, trivial⟩
        · have hle2 : ¬ (2147483647 : Int) < (q : Int) := by omega
          go_wp2
          go_round
          case rel => exact ⟨k + 1, by omega, by go_num⟩
          case measure => simp [intOf]; omega
      · go_wp2
        go_ret
        exact ⟨_, rfl, rfl, trivial⟩
set_option maxRecDepth 100000 in
set_option maxHeartbeats 1000000 in
theorem joined_any (A : Option Addr) (n c : Nat) (vs : List (Option Addr × Nat × Nat)) (xss : List (List Int)) (w : World) (hn : n = vs.length) (hr : Rss w A vs xss) (hl : xss.flatten.length ≤ 140737488351232) :
    Calls Try.prog 16 #[.slice A n c] w (Gives NoB w xss.flatten) := by
  have HR := As.mk hr
  have HN := As.mk hn
  have HL := As.mk hl
  have hm : n ≤ 9223372036854775806 := by have := hr.1.1; omega
  clear hr hn hl
  go_enter Try.func16, Try.ntmps16
  go_wp2_with fail
  go_loopw [3, 8] (fun v iv wr => ∃ (k : Nat) (Av : Option Addr) (nv cv : Nat), v = .slice Av nv cv ∧ k ≤ n ∧ iv = .int .i64 k ∧ As (Own wr w.heap.size 5 .u8 (.slice Av nv cv) (xss.take k).flatten) ∧ As (Chg NoB w wr)) (fun _ iv _ => n - (intOf iv).toNat)
  case atStart => exact ⟨0, none, 0, 0, rfl, Nat.zero_le _, rfl, ⟨own_nil _ _ _ _⟩, ⟨Chg.refl _ _⟩⟩
  case round =>
    obtain ⟨k, Av, nv, cv, rfl, hk, rfl, HO, HC⟩ := hrel
    by_cases hlt : k < n
    · have hkv : k < vs.length := by have := HN.out; omega
      have hkx : k < xss.length := by have := HR.out.2.1; omega
      have HRr := As.mk (HR.out.keep HC.out)
      have HF := As.mk (flatten_take hkx)
      have hrow := HRr.out.2.2 k hkv hkx
      have hle2 := flatten_take_le xss (k + 1)
      obtain ⟨ad, hadd, hb0, hcell⟩ := HR.out.1.2 (by omega)
      subst hadd
      have hck : wr.cell? (ad.add k) = some (.slice vs[k].1 vs[k].2.1 vs[k].2.2) := (HC.out.cell (p := ad.add k) (by rw [add_block]; exact hb0) (fun e => e)).trans (hcell k hkv)
      generalize vs[k].2.1 = pn at *
      generalize vs[k].1 = PA at *
      generalize vs[k].2.2 = pc at *
      generalize hys : xss[k] = ys at *
      have HBR := As.mk hrow.2
      have HPN := As.mk hrow.1
      have HLL : As ((xss.take k).flatten.length + ys.length ≤ 140737488351232) := ⟨by
        have := congrArg List.length HF.out
        have := HL.out
        rw [List.length_append] at *
        omega⟩
      clear hrow hcell hys hle2 hb0
      go_wp2_with (at_builtin; refine wpList_append_rk rfl _ _ 22 rfl 5 .u8 1 Try.underlying22 info8 (by decide) _ w.heap.size _ ys PA pc rfl (by rw [← HPN.out]; rfl) HO.out HBR.out HC.out.size (by have := HLL.out; omega) ?_; intro v1 w1 ho1 hg1 hb1; obtain ⟨A1, c1, hv1, _, _⟩ := ow_form (ow_of ho1); generalize hm1 : ((xss.take k).flatten ++ ys).length = m1 at hv1; clear hm1; subst hv1; have HO1 := As.mk ho1; have hc1 := grown_chg hg1; have HC1 := As.mk hc1; clear ho1 hg1 hb1 hc1)
      go_roundw
      case rel => exact ⟨k + 1, A1, m1, c1, rfl, by omega, by go_num, ⟨by rw [HF.out]; exact HO1.out⟩, ⟨HC.out.trans HC1.out (fun b hb e => by have := (own_block_lt HO.out b e).1; omega)⟩⟩
      case measure => simp [intOf]; omega
    · obtain rfl : k = n := by omega
      go_wp2_with fail
      go_ret
      refine ⟨_, rfl, ?_, HC.out⟩
      have h1 := HO.out
      rw [List.take_of_length_le (by have := HN.out; have := HR.out.2.1; omega)] at h1
      exact h1
set_option maxRecDepth 100000 in
set_option maxHeartbeats 1000000 in
theorem twoReturns_any (A : Option Addr) (n c : Nat) (xs : List Int) (w : World) (hn : n = xs.length) (hx : Rb w A xs) (hb : Byt xs) :
    Calls Try.prog 17 #[.slice A n c] w (SomeBool (fun b => b = false → No2 xs) w) := by
  have HX := As.mk hx
  have HN := As.mk hn
  have hm : n ≤ 9223372036854775807 := by have := hx.1; omega
  clear hx hn
  go_enter Try.func17, Try.ntmps17
  go_wp2
  go_loop [7] (fun i => ∃ k : Nat, k ≤ n ∧ i = .int .i64 k ∧ As (∀ j : Nat, j + 1 < k → xs[j]? = some 13 → xs[j + 1]? = some 13 → False)) (fun i => n - (intOf i).toNat)
  case atStart => exact ⟨0, Nat.zero_le _, rfl, ⟨fun j h => by omega⟩⟩
  case round =>
    obtain ⟨k, hk, rfl, HT⟩ := hrel
    by_cases hlt : k < n
    · have HKX : As (k < xs.length) := ⟨by have := HN.out; omega⟩
      obtain ⟨ad, hadd, cp⟩ := HX.out.at_ (k : Int) (by omega) (by have := HN.out; omega)
      subst hadd
      rw [Int.toNat_natCast] at cp
      have HGK : As (xs[k]? = some (rd xs (k : Int))) := ⟨by rw [List.getElem?_eq_getElem HKX.out]; simp [rd, HKX.out, List.getD_eq_getElem?_getD]⟩
      rcases Nat.eq_zero_or_pos k with hkz | hkp
      · have HS : As (∀ j : Nat, j + 1 < k + 1 → xs[j]? = some 13 → xs[j + 1]? = some 13 → False) := ⟨fun j h => by omega⟩
        have hk0 : ¬ ((0 : Int) < (k : Int)) := by omega
        generalize rd xs (k : Int) = ch at *
        clear hkz
        go_wp2
        go_round
        case rel => exact ⟨k + 1, by omega, by go_num, HS⟩
        case measure => simp [intOf]; omega
      · obtain ⟨k1, rfl⟩ : ∃ k1, k = k1 + 1 := ⟨k - 1, by omega⟩
        obtain ⟨ad1, hadd1, cp1⟩ := HX.out.at_ (k1 : Int) (by omega) (by have := HKX.out; omega)
        injection hadd1 with hadd1
        subst hadd1
        rw [Int.toNat_natCast] at cp1
        have HG1 : As (xs[k1]? = some (rd xs (k1 : Int))) := ⟨by have := HKX.out; rw [List.getElem?_eq_getElem (by omega)]; simp [rd, show k1 < xs.length by omega, List.getD_eq_getElem?_getD]⟩
        generalize rd xs (((k1 + 1 : Nat)) : Int) = ch at *
        generalize rd xs (k1 : Int) = c1 at *
        obtain ⟨k, hkk⟩ : ∃ k, k = k1 + 1 := ⟨_, rfl⟩
        rw [← hkk] at cp hk hlt HT HGK ⊢
        have hk0 : (0 : Int) < (k : Int) := by omega
        have hkm : (k : Int) - 1 = (k1 : Int) := by omega
        have hkw : IntKind.i64.wrap (k1 : Int) = (k1 : Int) := by simp [IntKind.wrap, IntKind.bits, IntKind.signed]; omega
        have hk1i : (k1 : Int) < (n : Int) := by omega
        have HKK := As.mk hkk
        by_cases h13 : ch = 13
        · subst h13
          by_cases h113 : c1 = 13
          · subst h113
            clear hkk
            go_wp2
            go_ret
            exact ⟨_, rfl, rfl, fun h => by cases h⟩
          · have e1 : (c1 == 13) = false := by simp [h113]
            have HS : As (∀ j : Nat, j + 1 < k + 1 → xs[j]? = some 13 → xs[j + 1]? = some 13 → False) := ⟨fun j h h1 h2 => by
              by_cases e : j + 1 = k
              · have := HKK.out
                obtain rfl : j = k1 := by omega
                rw [HG1.out] at h1
                exact h113 (Option.some.inj h1)
              · exact HT.out j (by omega) h1 h2⟩
            clear hkk
            go_wp2
            go_round
            case rel => exact ⟨k + 1, by omega, by go_num, HS⟩
            case measure => simp [intOf]; omega
        · have e1 : (ch == 13) = false := by simp [h13]
          have HS : As (∀ j : Nat, j + 1 < k + 1 → xs[j]? = some 13 → xs[j + 1]? = some 13 → False) := ⟨fun j h h1 h2 => by
            by_cases e : j + 1 = k
            · rw [e, HGK.out] at h2
              exact h13 (Option.some.inj h2)
            · exact HT.out j (by omega) h1 h2⟩
          clear hkk
          go_wp2
          go_round
          case rel => exact ⟨k + 1, by omega, by go_num, HS⟩
          case measure => simp [intOf]; omega
    · have HS : As (No2 xs) := ⟨fun j h1 h2 => by
        have h3 : j + 1 < xs.length := by
          rcases Nat.lt_or_ge (j + 1) xs.length with h | h
          · exact h
          · rw [List.getElem?_eq_none h] at h2; cases h2
        exact HT.out j (by have := HN.out; omega) h1 h2⟩
      go_wp2
      go_ret
      exact ⟨_, rfl, rfl, fun _ => HS.out⟩
theorem canP_any {xs : List Int} {k : Nat} (h : k < xs.length) (k1 : Nat) (hk : k = 0 ∨ k = k1 + 1) : canP 0 (xs.take (k + 1)) = canP 0 (xs.take k) ++ (if rd xs (k : Int) = 10 ∧ (k = 0 ∨ rd xs (k1 : Int) ≠ 13) then [13, rd xs (k : Int)] else [rd xs (k : Int)]) := by
  rcases hk with rfl | rfl
  · have h1 := canP_step0 h
    simpa using h1
  · have h1 := canP_step h
    simpa using h1
def GivesO (w : World) (xs : List Int) (e : Ending) (w' : World) : Prop :=
  ∃ v, e = .returned v ∧ Ow w' w.heap.size 5 .u8 v xs ∧ Chg NoB w w'
set_option maxRecDepth 100000 in
set_option maxHeartbeats 1000000 in
theorem canonical_any (A : Option Addr) (n c : Nat) (xs : List Int) (w : World) (hn : n = xs.length) (hx : Rb w A xs) (hb : Byt xs) (hl : n ≤ 4096) :
    Calls Try.prog 19 #[.slice A n c] w (GivesO w (canP 0 xs)) := by
  have HX := As.mk hx
  have HN := As.mk hn
  clear hx hn
  go_enter Try.func19, Try.ntmps19
  go_wp2_with fail
  go_loopw [3, 8] (fun v iv wr => ∃ k : Nat, k ≤ n ∧ iv = .int .i64 k ∧ As (Ow wr w.heap.size 5 .u8 v (canP 0 (xs.take k))) ∧ As (Chg NoB w wr)) (fun _ iv _ => n - (intOf iv).toNat)
  case atStart => exact ⟨0, Nat.zero_le _, rfl, ⟨ow_of (own_nil _ _ _ _)⟩, ⟨Chg.refl _ _⟩⟩
  case round =>
    obtain ⟨k, hk, rfl, HO, HC⟩ := hrel
    by_cases hlt : k < n
    · have HKX : As (k < xs.length) := ⟨by have := HN.out; omega⟩
      have HXr := As.mk (HX.out.keep HC.out)
      obtain ⟨ad, hadd, cp⟩ := HXr.out.at_ (k : Int) (by omega) (by have := HN.out; omega)
      subst hadd
      rw [Int.toNat_natCast] at cp
      obtain ⟨k1, hk1⟩ : ∃ k1, k1 = k - 1 := ⟨_, rfl⟩
      have hst := canP_any HKX.out k1 (by omega)
      have HDL : As ((canP 0 (xs.take k)).length ≤ 8192) := ⟨by
        have h1 := canP_length (xs.take k) 0
        rw [List.length_take] at h1
        omega⟩
      obtain ⟨ad1, hadd1, cp1⟩ := HXr.out.at_ (k1 : Int) (by omega) (by have := HKX.out; omega)
      injection hadd1 with hadd1
      subst hadd1
      rw [Int.toNat_natCast] at cp1
      generalize hD : canP 0 (xs.take k) = D at *
      generalize rd xs (k : Int) = ch at *
      generalize rd xs (k1 : Int) = c1 at *
      clear hD
      by_cases h10 : ch = 10
      · subst h10
        rcases Nat.eq_zero_or_pos k with hk0 | hkp
        · have hkb : ((k : Int) == 0) = true := by simp; omega
          have HST : As (canP 0 (xs.take (k + 1)) = D ++ [13] ++ [10]) := ⟨by rw [hst, if_pos ⟨rfl, .inl hk0⟩]; simp⟩
          clear hst hk1 hk0 cp1
          go_wp2_with (first
            | ((with_reducible refine gate (N := 29) rfl ?_); refine wpList_append_ow rfl _ _ 22 rfl 5 .u8 1 Try.underlying22 info8 (by decide) _ w.heap.size D [13] (some ⟨wr.heap.size, 0, none⟩) 1 1 rfl rfl rfl (ow_keep HO.out ((Chg.refl NoB wr).alloc _)) (own_reads (own_lit wr 0 5 .u8 [13] (Nat.zero_le _) (by simp [maxLen]))) (Nat.le_trans HC.out.size (((Chg.refl NoB wr).alloc _).size)) (by have := HDL.out; simp only [List.length_cons, List.length_nil]; omega) ?_; intro v0 w0 ho0 hc0; have HO0 := As.mk ho0; have HC0 : As (Chg NoB w w0) := ⟨(HC.out.alloc _).trans hc0 (fun b hb e => by have := e.1; omega)⟩; clear ho0 hc0)
            | ((with_reducible refine gate (N := 33) rfl ?_); refine wpList_append_ow rfl _ _ 22 rfl 5 .u8 1 Try.underlying22 info8 (by decide) _ w.heap.size (D ++ [13]) [10] (some ⟨w0.heap.size, 0, none⟩) 1 1 rfl rfl rfl (ow_keep HO0.out ((Chg.refl NoB w0).alloc _)) (own_reads (own_lit w0 0 5 .u8 [10] (Nat.zero_le _) (by simp [maxLen]))) (Nat.le_trans HC0.out.size (((Chg.refl NoB w0).alloc _).size)) (by have := HDL.out; simp only [List.length_append, List.length_cons, List.length_nil]; omega) ?_; intro v1 w1 ho1 hc1; have HO1 := As.mk ho1; have HC1 : As (Chg NoB w w1) := ⟨(HC0.out.alloc _).trans hc1 (fun b hb e => by have := e.1; omega)⟩; clear ho1 hc1))
          go_roundw
          case rel => exact ⟨k + 1, by omega, by go_num, ⟨by rw [HST.out]; exact HO1.out⟩, HC1⟩
          case measure => simp [intOf]; omega
        · have hk0 : ((k : Int) == 0) = false := by simp; omega
          have hkm : (k : Int) - 1 = (k1 : Int) := by omega
          have hkw : IntKind.i64.wrap (k1 : Int) = (k1 : Int) := by simp [IntKind.wrap, IntKind.bits, IntKind.signed]; omega
          have hk1i : (k1 : Int) < (n : Int) := by omega
          by_cases h13 : c1 = 13
          · subst h13
            have HST : As (canP 0 (xs.take (k + 1)) = D ++ [10]) := ⟨by rw [hst, if_neg (by omega)]⟩
            clear hst hk1
            go_wp2_with ((with_reducible refine gate (N := 33) rfl ?_); refine wpList_append_ow rfl _ _ 22 rfl 5 .u8 1 Try.underlying22 info8 (by decide) _ w.heap.size D [10] (some ⟨wr.heap.size, 0, none⟩) 1 1 rfl rfl rfl (ow_keep HO.out ((Chg.refl NoB wr).alloc _)) (own_reads (own_lit wr 0 5 .u8 [10] (Nat.zero_le _) (by simp [maxLen]))) (Nat.le_trans HC.out.size (((Chg.refl NoB wr).alloc _).size)) (by have := HDL.out; simp only [List.length_cons, List.length_nil]; omega) ?_; intro v1 w1 ho1 hc1; have HO1 := As.mk ho1; have HC1 : As (Chg NoB w w1) := ⟨(HC.out.alloc _).trans hc1 (fun b hb e => by have := e.1; omega)⟩; clear ho1 hc1)
            go_roundw
            case rel => exact ⟨k + 1, by omega, by go_num, ⟨by rw [HST.out]; exact HO1.out⟩, HC1⟩
            case measure => simp [intOf]; omega
          · have e13 : (c1 != 13) = true := by simp [h13]
            have HST : As (canP 0 (xs.take (k + 1)) = D ++ [13] ++ [10]) := ⟨by rw [hst, if_pos ⟨rfl, .inr h13⟩]; simp⟩
            clear hst hk1
            go_wp2_with (first
              | ((with_reducible refine gate (N := 29) rfl ?_); refine wpList_append_ow rfl _ _ 22 rfl 5 .u8 1 Try.underlying22 info8 (by decide) _ w.heap.size D [13] (some ⟨wr.heap.size, 0, none⟩) 1 1 rfl rfl rfl (ow_keep HO.out ((Chg.refl NoB wr).alloc _)) (own_reads (own_lit wr 0 5 .u8 [13] (Nat.zero_le _) (by simp [maxLen]))) (Nat.le_trans HC.out.size (((Chg.refl NoB wr).alloc _).size)) (by have := HDL.out; simp only [List.length_cons, List.length_nil]; omega) ?_; intro v0 w0 ho0 hc0; have HO0 := As.mk ho0; have HC0 : As (Chg NoB w w0) := ⟨(HC.out.alloc _).trans hc0 (fun b hb e => by have := e.1; omega)⟩; clear ho0 hc0)
              | ((with_reducible refine gate (N := 33) rfl ?_); refine wpList_append_ow rfl _ _ 22 rfl 5 .u8 1 Try.underlying22 info8 (by decide) _ w.heap.size (D ++ [13]) [10] (some ⟨w0.heap.size, 0, none⟩) 1 1 rfl rfl rfl (ow_keep HO0.out ((Chg.refl NoB w0).alloc _)) (own_reads (own_lit w0 0 5 .u8 [10] (Nat.zero_le _) (by simp [maxLen]))) (Nat.le_trans HC0.out.size (((Chg.refl NoB w0).alloc _).size)) (by have := HDL.out; simp only [List.length_append, List.length_cons, List.length_nil]; omega) ?_; intro v1 w1 ho1 hc1; have HO1 := As.mk ho1; have HC1 : As (Chg NoB w w1) := ⟨(HC0.out.alloc _).trans hc1 (fun b hb e => by have := e.1; omega)⟩; clear ho1 hc1))
            go_roundw
            case rel => exact ⟨k + 1, by omega, by go_num, ⟨by rw [HST.out]; exact HO1.out⟩, HC1⟩
            case measure => simp [intOf]; omega
      · have e10 : (ch == 10) = false := by simp [h10]
        have HST : As (canP 0 (xs.take (k + 1)) = D ++ [ch]) := ⟨by rw [hst, if_neg (fun h => h10 h.1)]⟩
        clear hst hk1
        go_wp2_with ((with_reducible refine gate (N := 33) rfl ?_); refine wpList_append_ow rfl _ _ 22 rfl 5 .u8 1 Try.underlying22 info8 (by decide) _ w.heap.size D [ch] (some ⟨wr.heap.size, 0, none⟩) 1 1 rfl rfl rfl (ow_keep HO.out ((Chg.refl NoB wr).alloc _)) (own_reads (own_lit wr 0 5 .u8 [ch] (Nat.zero_le _) (by simp [maxLen]))) (Nat.le_trans HC.out.size (((Chg.refl NoB wr).alloc _).size)) (by have := HDL.out; simp only [List.length_cons, List.length_nil]; omega) ?_; intro v1 w1 ho1 hc1; have HO1 := As.mk ho1; have HC1 : As (Chg NoB w w1) := ⟨(HC.out.alloc _).trans hc1 (fun b hb e => by have := e.1; omega)⟩; clear ho1 hc1)
        go_roundw
        case rel => exact ⟨k + 1, by omega, by go_num, ⟨by rw [HST.out]; exact HO1.out⟩, HC1⟩
        case measure => simp [intOf]; omega
    · obtain rfl : k = n := by omega
      have HTK : As (xs.take k = xs) := ⟨List.take_of_length_le (by have := HN.out; omega)⟩
      go_wp2_with fail
      go_ret
      refine ⟨_, rfl, ?_, HC.out⟩
      have h1 := HO.out
      rw [HTK.out] at h1
      exact h1
end Go.Proofs.Ytmokepbmodmgeaa
