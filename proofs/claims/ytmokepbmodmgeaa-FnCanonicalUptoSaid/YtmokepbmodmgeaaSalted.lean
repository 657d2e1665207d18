/- The contract of s2k.Salted over the hash of plain data. -/
import Derived.Test.YtmokepbmodmgeaaDigOf
import Derived.Test.YtmokepbmodmgeaaStrm
import Derived.Deep.RegionLaw
import Derived.Deep.DeepCutAuto
set_option linter.unusedVariables false
set_option linter.unusedSimpArgs false
namespace Go.Proofs.Ytmokepbmodmgeaa
open Go.RowKit V
theorem na_reset (a : Addr) (w : World) : (nilAhead 192 45 (.pointer (some a)) "Reset").run Try.prog w = .ok (some false) w := by kernel_rfl
theorem na_write (a : Addr) (w : World) : (nilAhead 192 45 (.pointer (some a)) "Write").run Try.prog w = .ok (some false) w := by kernel_rfl
theorem na_sum (a : Addr) (w : World) : (nilAhead 192 45 (.pointer (some a)) "Sum").run Try.prog w = .ok (some false) w := by kernel_rfl
theorem me_reset (a : Addr) (w : World) : (method 192 45 (.pointer (some a)) "Reset").run Try.prog w = .ok (28, .pointer (some a)) w := by kernel_rfl
theorem me_write (a : Addr) (w : World) : (method 192 45 (.pointer (some a)) "Write").run Try.prog w = .ok (46, .pointer (some a)) w := by kernel_rfl
theorem me_sum (a : Addr) (w : World) : (method 192 45 (.pointer (some a)) "Sum").run Try.prog w = .ok (45, .pointer (some a)) w := by kernel_rfl
theorem ow_take0 {w : World} {base m c : Nat} {A : Option Addr} {xs : List Int} (h : Ow w base 5 .u8 (.slice A m c) xs) : Ow w base 5 .u8 (.slice A 0 c) [] := by
  rcases h with h | ⟨rfl, A', e⟩
  · have := own_take h 0 (Nat.zero_le _)
    exact .inl (by simpa using this)
  · injection e with e1 e2 e3
    subst e3
    exact .inr ⟨rfl, A, rfl⟩
theorem ow_reads' {w : World} {base n c : Nat} {A : Option Addr} {e : TypeId} {k : IntKind} {xs : List Int} (h : Ow w base e k (.slice A n c) xs) : Rk k w A xs := by
  obtain ⟨A', c', e', _, hr⟩ := ow_form h
  injection e' with e1
  subst e1
  exact hr
theorem wpList_copy_n {P : Program} {et : TypeId} {ops : Array Oper} {rest : List Oper} {o : Oper} {a : Act} {Q : Exit → Act → World → Prop} {w : World} (hgd : o.guard = none) (d s : Operand) (dT sT : TypeId)
    (ho : o.op = .call { callee := .builtin .copy, args := #[d, s], argTypes := #[dT, sT] }) (base : Nat) (e : TypeId) (k : IntKind) (hu : P.underlying dT = some (.slice e)) (hsz : (P.info? e).map (·.size) = some 1)
    (g N cap : Nat) (xs : List Int) (hN : N = xs.length) (HO : Own w base et k (.slice (some ⟨g, 0, none⟩) N cap) xs) (dA : Option Addr) (off n dc : Nat) (hoff : off + n ≤ N) (hd : a.eval d = .slice dA n dc) (hA : 0 < n → dA = some ⟨g, off, none⟩)
    (A : Option Addr) (ys : List Int) (m c z : Nat) (hm : m = ys.length) (hs : a.eval s = .slice A m c) (HR : Rk k w A ys) (hz : z = min m n)
    (h : ∀ w1, Own w1 base et k (.slice (some ⟨g, 0, none⟩) N cap) (splice xs off (ys.take n)) → w.grownBy w1 (some g) → wpList P ops Q rest (a.put o.dst (goInt (z : Int))) w1) :
    wpList P ops Q (o :: rest) a w := by
  subst hN
  subst hm
  subst hz
  exact wpList_copy_rk hgd d s dT sT ho base e k hu hsz g cap xs HO dA off n dc hoff hd hA A ys c hs HR h
/-- What Salted leaves. -/
def Stretched (w : World) (Bo B0 B1 d go co n : Nat) (SA : Option Addr) (sc : Nat) (MA : Option Addr) (mc : Nat) (sub mask text : List Int) (size : Nat) (e : Ending) (w' : World) : Prop :=
  e = .returned (.tuple #[]) ∧ Own w' Bo 5 .u8 (.slice (some ⟨go, 0, none⟩) size co) (stretch sub n mask text size) ∧ Chg (fun b => b = go ∨ b = d ∨ B1 ≤ b) w w'
set_option maxRecDepth 100000 in
set_option maxHeartbeats 1000000 in
theorem salted_any (Bo B0 B1 d go co n : Nat) (SA : Option Addr) (sc : Nat) (MA : Option Addr) (mc : Nat) (sub mask pass salt : List Int) (size : Nat) (PA : Option Addr) (pn pc : Nat) (TA : Option Addr) (tn tc : Nat) (w : World)
    (hd : Dw w B0 B1 d n SA sc MA mc sub mask) (hB : B1 ≤ w.heap.size) (ho : Own w Bo 5 .u8 (.slice (some ⟨go, 0, none⟩) size co) (List.replicate size 0)) (hgd : go < B0) (hsz : size ≤ 65536) (hco : size ≤ co)
    (hp : Rf (fun b => b < go) w PA pass) (ht : Rf (fun b => b < go) w TA salt) (hpn : pn = pass.length) (htn : tn = salt.length) (bp : Byt pass) (bt : Byt salt) :
    Calls Try.prog 23 #[.slice (some ⟨go, 0, none⟩) size co, .iface 45 (.pointer (some ⟨d, 0, none⟩)), .slice PA pn pc, .slice TA tn tc] w (Stretched w Bo B0 B1 d go co n SA sc MA mc sub mask (salt ++ pass) size) := by
  have HD := As.mk hd
  have HO := As.mk ho
  have HP := As.mk hp
  have HT := As.mk ht
  have HL := As.mk (And.intro hpn (And.intro htn (And.intro bp bt)))
  have HF := As.mk hd.1
  have hn1 := hd.1.n1
  have hn2 := hd.1.n2
  have hdB := hd.1.dlt
  have hd0 := hd.1.dge
  clear hd ho hp ht hpn htn bp bt
  have n1 := na_reset
  have n2 := na_write
  have n3 := na_sum
  have m1 := me_reset
  have m2 := me_write
  have m3 := me_sum
  go_enter Try.func23, Try.ntmps23
  go_wp2_with fail
  go_loopw [8, 9, 10] (fun dn v i wr => ∃ (k q : Nat) (xs : List Int) (A : Option Addr) (m c : Nat), v = .slice A m c ∧ dn = .int .i64 q ∧ q ≤ size ∧ i = .int .i64 k ∧ k ≤ 65536 ∧ As (q = min (k * n) size ∧ xs.length ≤ 64 ∧ m = xs.length ∧ m ≤ c) ∧ As (Own wr Bo 5 .u8 (.slice (some ⟨go, 0, none⟩) size co) (outAt sub n mask (salt ++ pass) size k)) ∧ As (Dw wr B0 B1 d n SA sc MA mc sub mask) ∧ As (Ow wr B1 5 .u8 (.slice A m c) xs) ∧ As (Chg (fun b => b = go ∨ b = d ∨ B1 ≤ b) w wr)) (fun dn _ _ _ => size - (intOf dn).toNat)
  case atStart => exact ⟨0, 0, [], none, 0, 0, rfl, rfl, Nat.zero_le _, rfl, by omega, ⟨by simp⟩, ⟨by rw [outAt_zero]; exact HO.out⟩, HD, ⟨ow_of (own_nil _ _ _ _)⟩, ⟨Chg.refl _ _⟩⟩
  case round =>
    obtain ⟨k, q, xs, A, m, c, rfl, rfl, hq, rfl, hk, HQ, HO', HD', HV, HC⟩ := hrel
    by_cases hlt : q < size
    · have hB' : B1 ≤ wr.heap.size := Nat.le_trans hB HC.out.size
      have HQK : As (q = k * n) := ⟨by have := HQ.out.1; omega⟩
      have hk2 : (k : Int) ≤ 65536 := by omega
      go_wp2_with fail
      refine (reset_any B0 B1 d n SA sc MA mc sub mask _ HD'.out hB').mono ?_
      rintro e w1 ⟨rfl, hc1, g, gc, hds, hg⟩
      have HC1 := As.mk hc1
      have HDS := As.mk hds
      have HG := As.mk hg
      clear hc1 hds hg
      go_wp2_with fail
      have hg0 : B1 ≤ g := Nat.le_trans hB' HG.out
      obtain ⟨wo, rfl⟩ : ∃ wo : World, wo = wr := ⟨_, rfl⟩
      go_loopw [11] (fun jv wj => ∃ j : Nat, j ≤ k ∧ jv = .int .i64 j ∧ As (Ds wj B0 B1 d n SA sc MA mc sub mask g gc (dmix sub n (mask, 0) (List.replicate j 0))) ∧ As (Chg (fun b => b = d ∨ (b ≠ go ∧ wo.heap.size ≤ b)) wo wj)) (fun jv _ => k - (intOf jv).toNat)
      case atStart => exact ⟨0, Nat.zero_le _, rfl, ⟨HDS.out⟩, ⟨HC1.out.mono (fun b _ e => .inl e)⟩⟩
      case round =>
        obtain ⟨j, hj, rfl, HJ, HJC⟩ := hrel
        by_cases hjl : j < k
        · have HW : As (Calls Try.prog 46 #[.pointer (some ⟨d, 0, none⟩), .slice (some ⟨wr.heap.size, 0, none⟩) 1 1] (wr.alloc (.cells #[.int .u8 0] 5)) (WasMixed (wr.alloc (.cells #[.int .u8 0] 5)) B0 B1 d n SA sc MA mc sub mask g gc (dmix sub n (dmix sub n (mask, 0) (List.replicate j 0)) [0]) 1)) := ⟨by
            have hal : Chg NoB wr (wr.alloc (.cells #[.int .u8 0] 5)) := (Chg.refl NoB wr).alloc _
            have hgl := (own_blocks HJ.out.2.2.1).2
            have hdl := HJ.out.2.1.lt
            refine write_any B0 B1 d n SA sc MA mc sub mask g gc _ (some ⟨wr.heap.size, 0, none⟩) 1 1 [0] _ (HJ.out.keep hal) rfl ⟨?_, fun ad e hp => by injection e with e; subst e; exact ⟨by show wr.heap.size ≠ d; omega, by show wr.heap.size ≠ g; omega⟩⟩ (fun x hx => by simp at hx; subst hx; decide)
            exact own_reads (own_lit wr 0 5 .u8 [0] (Nat.zero_le _) (by simp [maxLen]))⟩
          go_wp2_with fail
          refine HW.out.mono ?_
          rintro e w2 ⟨rfl, hc2, hds2⟩
          have HC2 : As (Chg (fun b => b = d ∨ (b ≠ go ∧ wo.heap.size ≤ b)) wo w2) := ⟨(HJC.out.alloc (.cells #[.int .u8 0] 5)).trans hc2 (fun b hb e => by have := HG.out; rcases e with e | e; exact .inl e; omega)⟩
          have HD2 : As (Ds w2 B0 B1 d n SA sc MA mc sub mask g gc (dmix sub n (mask, 0) (List.replicate (j + 1) 0))) := ⟨by rw [List.replicate_succ', dmix_append]; exact hds2⟩
          clear hc2 hds2
          go_wp2_with fail
          go_roundw
          case rel => exact ⟨j + 1, by omega, by go_num, HD2, HC2⟩
          case measure => simp [intOf]; omega
        · obtain rfl : j = k := by omega
          have hgl := (own_blocks HJ.out.2.2.1).2
          have CW : As (Chg (fun b => b = go ∨ b = d ∨ B1 ≤ b) w wr) := ⟨HC.out.trans HJC.out (fun b hb e => by rcases e with e | e; exact .inr (.inl e); exact .inr (.inr (Nat.le_trans hB' e.2)))⟩
          have HTw := As.mk (HT.out.chg CW.out (fun b _ hb e => by rcases e with e | e | e <;> omega))
          have HPw := As.mk (HP.out.chg CW.out (fun b _ hb e => by rcases e with e | e | e <;> omega))
          have HW1 := As.mk (write_any B0 B1 d n SA sc MA mc sub mask g gc _ TA tn tc salt wr HJ.out HL.out.2.1 (HTw.out.mono (fun b _ hb => ⟨by omega, by omega⟩)) HL.out.2.2.2)
          go_wp2_with fail
          refine HW1.out.mono ?_
          rintro e w4 ⟨rfl, hc4, hd4⟩
          have HC4 := As.mk hc4
          have HW2 := As.mk (write_any B0 B1 d n SA sc MA mc sub mask g gc _ PA pn pc pass w4 hd4 HL.out.1 ((HPw.out.chg hc4 (fun b _ hb e => by rcases e with e | e <;> omega)).mono (fun b _ hb => ⟨by omega, by omega⟩)) HL.out.2.2.1)
          clear hc4 hd4
          go_wp2_with fail
          refine HW2.out.mono ?_
          rintro e w5 ⟨rfl, hc5, hd5⟩
          rw [← dmix_append, ← dmix_append] at hd5
          have HD5 := As.mk hd5
          have C5 : As (Chg (fun b => b = d ∨ (b ≠ go ∧ wo.heap.size ≤ b)) wo w5) := ⟨(HJC.out.trans HC4.out (fun b hb e => by have := HG.out; rcases e with e | e; exact .inl e; omega)).trans hc5 (fun b hb e => by have := HG.out; rcases e with e | e; exact .inl e; omega)⟩
          have HV5 : As (Ow w5 B1 5 .u8 (.slice A 0 c) []) := ⟨by
            refine ow_take0 (m := m) (xs := xs) ?_
            rcases HV.out with h | h
            · exact .inl (own_chg h C5.out (fun b hb e => by have := own_block_lt h b hb; rcases e with e | e <;> omega))
            · exact .inr h⟩
          have HO5 := As.mk (own_chg HO'.out C5.out (fun b hb e => by simp [Value.ownBlock] at hb; rcases e with e | e <;> omega))
          have hB5 : B1 ≤ w5.heap.size := Nat.le_trans hB' C5.out.size
          have HSUM : As (∀ w', Chg NoB w5 w' → Calls Try.prog 45 #[.pointer (some ⟨d, 0, none⟩), .slice A 0 c] w' (WasSummed w' B1 (.slice A 0 c) [] (sumOf sub n mask (salt ++ pass) j))) := ⟨fun w' h => sum_any B0 B1 d n SA sc MA mc sub mask g gc _ _ [] w' (HD5.out.keep h) (ow_keep HV5.out h) (Nat.le_trans hB5 h.size) (by simp)⟩
          have hcut0 := cut_to (P := Try.prog) 22 5 Try.underlying22 size8 A m c 0 .i64 0 rfl (by omega)
          have HLS := As.mk (sumOf_length (text := salt ++ pass) HF.out.bs HF.out.bm HF.out.lm hn1 j)
          clear hc5 hd5
          go_upto_region 12 with fail
          go_cut [9] (fun s9 wx => ∃ (A' : Option Addr) (c' : Nat), s9 = .slice A' n c' ∧ n ≤ c' ∧ As (Ow wx B1 5 .u8 (.slice A' n c') (sumOf sub n mask (salt ++ pass) j)) ∧ As (Chg (OvS B1 (.slice A 0 c)) w5 wx))
          case first =>
            go_region_law (first
              | (go_simp
                 refine (HSUM.out _ ?hc0).mono ?_
                 case hc0 => repeat (first | exact Chg.refl _ _ | (with_reducible apply Chg.drew) | (with_reducible apply Chg.alloc))
                 rintro e6 w6 ⟨v6, rfl, ho6, hc6⟩
                 rw [List.nil_append] at ho6
                 obtain ⟨A6, c6, rfl, hl6, _⟩ := ow_form ho6
                 rw [HLS.out] at ho6 hl6
                 rw [HLS.out]
                 have HO6 := As.mk ho6
                 have HC6 : As (Chg (OvS B1 (.slice A 0 c)) w5 w6) := ⟨Chg.trans (Chg.mono (S := NoB) (by repeat (first | exact Chg.refl _ _ | (with_reducible apply Chg.drew) | (with_reducible apply Chg.alloc))) (fun _ _ e => e.elim)) hc6 (fun _ _ e => e)⟩
                 clear ho6 hc6))
            all_goals
              go_wp2_with fail
              go_meet
              exact ⟨A6, c6, rfl, hl6, HO6, HC6⟩
          case rest =>
            obtain ⟨A6, c6, rfl, hnc6, HO6, HC6⟩ := hcut
            obtain ⟨z, hz⟩ : ∃ z, z = min n (size - q) := ⟨_, rfl⟩
            have HZ := As.mk hz
            have hz1 : 1 ≤ z := by omega
            have hz2 : z ≤ 64 := by omega
            obtain ⟨A', hcutO, hA', _⟩ := cut_from (P := Try.prog) 22 5 Try.underlying22 size8 (some ⟨go, 0, none⟩) size co (q : Int) .i64 (size - q) (co - q) (by omega) (by omega) (by omega) hco
            have hA2 : A' = some ⟨go, q, none⟩ := by
              rw [hA' (by omega), Int.toNat_natCast]
              exact congrArg some (add_lit0 go q)
            subst hA2
            have HOL := As.mk (outAt_length (text := salt ++ pass) (size := size) HF.out.bs HF.out.bm HF.out.lm hn1 j)
            have HO6c := As.mk (own_chg HO5.out HC6.out (fun b hb e => by simp [Value.ownBlock] at hb; subst hb; have := e.1; omega))
            have HD6 := As.mk (HD5.out.weak.chg HC6.out (fun b _ hb e => by have := e.1; omega))
            have HR6 : As (Rb wc A6 (sumOf sub n mask (salt ++ pass) j)) := ⟨ow_reads' HO6.out⟩
            have hqz : (q : Int) + (z : Int) ≤ 66000 := by omega
            clear hz hA' hcut0
            go_wp2_with (with_reducible refine wpList_copy_n rfl _ _ 22 22 rfl Bo 5 .u8 Try.underlying22 size8 go size co (outAt sub n mask (salt ++ pass) size j) HOL.out.symm HO6c.out (some ⟨go, q, none⟩) q (size - q) (co - q) ?h1 rfl (fun _ => rfl) A6 (sumOf sub n mask (salt ++ pass) j) n c6 z HLS.out.symm rfl HR6.out HZ.out ?_
                         (case h1 => omega)
                         intro w7 ho7 hg7
                         have HO7 : As (Own w7 Bo 5 .u8 (.slice (some ⟨go, 0, none⟩) size co) (outAt sub n mask (salt ++ pass) size (j + 1))) := ⟨by
                           rw [← outAt_step HF.out.bs HF.out.bm HF.out.lm hn1 (by have := HQK.out; omega), ← HQK.out]
                           exact ho7⟩
                         have HC7 := As.mk (grown_chg hg7)
                         clear ho7 hg7)
            go_roundw
            case rel =>
              have hC7 : Chg (fun b => b = go ∨ b = d ∨ B1 ≤ b) w w7 := ((HC.out.trans C5.out (fun b hb e => by rcases e with e | e; exact .inr (.inl e); exact .inr (.inr (Nat.le_trans hB' e.2)))).trans HC6.out (fun b hb e => .inr (.inr e.1))).trans HC7.out (fun b hb e => .inl (Option.some.inj e).symm)
              refine ⟨j + 1, q + z, sumOf sub n mask (salt ++ pass) j, A6, n, c6, rfl, by go_num, by have := HZ.out; omega, by go_num, ?_, ⟨?_, by rw [HLS.out]; omega, HLS.out.symm, hnc6⟩, HO7, ⟨HD6.out.chg HC7.out (fun b h0 hb e => by have := Option.some.inj e; omega)⟩, ⟨ow_chg HO6.out HC7.out (fun b hb hb2 e => by have := Option.some.inj e; omega)⟩, ⟨hC7⟩⟩
              · have h1 := HQK.out
                have h2 : j ≤ j * n := Nat.le_mul_of_pos_right _ (by omega)
                omega
              · have h1 := HQK.out
                have h2 := HZ.out
                rw [Nat.add_mul]
                omega
            case measure => simp [intOf]; omega
    · obtain rfl : q = size := by omega
      go_wp2_with fail
      go_end0
      refine ⟨rfl, ?_, HC.out⟩
      have := HO'.out
      rwa [outAt_end HF.out.bs HF.out.bm HF.out.lm hn1 (by have := HQ.out.1; omega)] at this
end Go.Proofs.Ytmokepbmodmgeaa
