/- The hash of plain data: its state in plain words; (*digest).Write, Reset, Sum. -/
import Derived.Test.YtdofkokeebgigaaDoorBase
import Derived.Test.YtdofkokeebgigaaDoorRow
import Derived.Laws.BitsAllLaws
set_option linter.unusedVariables false
set_option linter.unusedSimpArgs false
namespace Go.Proofs.YtdofkokeebgigaaDoor
open Go.RowKit V
def X8 (a b : Int) : Int := Go.bits .xor .u8 a b
def IsB (a : Int) : Prop := 0 ≤ a ∧ a ≤ 255
theorem x8_byte {a b : Int} (ha : IsB a) (hb : IsB b) : IsB (X8 a b) := by
  obtain ⟨h1, h2⟩ := ha
  obtain ⟨h3, h4⟩ := hb
  unfold X8 IsB
  rw [u8_xor a b h1 (by omega) h3 (by omega)]
  have : a.toNat ^^^ b.toNat < 2 ^ 8 := Nat.xor_lt_two_pow (by omega) (by omega)
  omega
/-- One byte: the state and the place. -/
def dst (sub : List Int) (n : Nat) (st : List Int × Nat) (b : Int) : List Int × Nat :=
  (st.1.set st.2 (X8 (rd sub (X8 (rd st.1 (st.2 : Int)) b)) (rd st.1 (((st.2 + 1) % n : Nat) : Int))), (st.2 + 1) % n)
def dmix (sub : List Int) (n : Nat) (st : List Int × Nat) (xs : List Int) : List Int × Nat := xs.foldl (dst sub n) st
theorem dmix_append (sub : List Int) (n : Nat) (st : List Int × Nat) (xs ys : List Int) : dmix sub n st (xs ++ ys) = dmix sub n (dmix sub n st xs) ys := List.foldl_append
theorem take_snoc' {xs : List Int} {k : Nat} (h : k < xs.length) : xs.take (k + 1) = xs.take k ++ [rd xs (k : Int)] := by
  rw [List.take_succ_eq_append_getElem h]
  simp [rd, List.getD_eq_getElem?_getD, List.getElem?_eq_getElem h]
theorem dmix_take {sub : List Int} {n : Nat} {st : List Int × Nat} {xs : List Int} {k : Nat} (h : k < xs.length) : dmix sub n st (xs.take (k + 1)) = dst sub n (dmix sub n st (xs.take k)) (rd xs (k : Int)) := by
  rw [take_snoc' h, dmix_append]; rfl
/-- A state that may be. -/
def Okst (n : Nat) (st : List Int × Nat) : Prop := st.1.length = n ∧ Byt st.1 ∧ st.2 < n
theorem byt_set {xs : List Int} (h : Byt xs) (k : Nat) {x : Int} (hx : IsB x) : Byt (xs.set k x) := fun y hy => by
  rcases List.mem_or_eq_of_mem_set hy with h1 | h1
  · exact h y h1
  · subst h1; exact hx
theorem okst_dst {sub : List Int} {n : Nat} {st : List Int × Nat} {b : Int} (hs : Byt sub) (hn : 1 ≤ n) (h : Okst n st) : Okst n (dst sub n st b) :=
  ⟨by simp [dst, h.1], byt_set h.2.1 _ (x8_byte (hs.rd _) (h.2.1.rd _)), Nat.mod_lt _ (by omega)⟩
theorem okst_mix {sub : List Int} {n : Nat} (hs : Byt sub) (hn : 1 ≤ n) : ∀ (xs : List Int) (st : List Int × Nat), Okst n st → Okst n (dmix sub n st xs)
  | [], _, h => h
  | x :: xs, st, h => okst_mix hs hn xs _ (okst_dst hs hn h)
/-! ### in memory -/
/-- What never turns of a digest at d: the table and the mask, in blocks below B1 other than d. -/
structure DgF (w : World) (B0 B1 d n : Nat) (SA : Option Addr) (sc : Nat) (MA : Option Addr) (mc : Nat) (sub mask : List Int) : Prop where
  rs : Rf (fun b => B0 ≤ b ∧ b < B1 ∧ b ≠ d) w SA sub
  rm : Rf (fun b => B0 ≤ b ∧ b < B1 ∧ b ≠ d) w MA mask
  dlt : d < B1
  dge : B0 ≤ d
  ls : sub.length = 256
  lm : mask.length = n
  bs : Byt sub
  bm : Byt mask
  n1 : 1 ≤ n
  n2 : n ≤ 64
theorem DgF.chg {w w' : World} {S : Nat → Prop} {B0 B1 d n : Nat} {SA : Option Addr} {sc : Nat} {MA : Option Addr} {mc : Nat} {sub mask : List Int} (h : DgF w B0 B1 d n SA sc MA mc sub mask) (hc : Chg S w w') (hs : ∀ b, B0 ≤ b → b < B1 → b ≠ d → ¬ S b) : DgF w' B0 B1 d n SA sc MA mc sub mask :=
  ⟨h.rs.chg hc (fun b _ hb => hs b hb.1 hb.2.1 hb.2.2), h.rm.chg hc (fun b _ hb => hs b hb.1 hb.2.1 hb.2.2), h.dlt, h.dge, h.ls, h.lm, h.bs, h.bm, h.n1, h.n2⟩
/-- A digest whose state is whatever it is. -/
def Dw (w : World) (B0 B1 d n : Nat) (SA : Option Addr) (sc : Nat) (MA : Option Addr) (mc : Nat) (sub mask : List Int) : Prop :=
  DgF w B0 B1 d n SA sc MA mc sub mask ∧ ∃ (v : Value) (k : Int), Blk w d 66 [.slice SA 256 sc, .slice MA n mc, v, .int .i64 k]
/-- A digest in a state. -/
def Ds (w : World) (B0 B1 d n : Nat) (SA : Option Addr) (sc : Nat) (MA : Option Addr) (mc : Nat) (sub mask : List Int) (g c : Nat) (st : List Int × Nat) : Prop :=
  DgF w B0 B1 d n SA sc MA mc sub mask ∧ Blk w d 66 [.slice SA 256 sc, .slice MA n mc, .slice (some ⟨g, 0, none⟩) n c, .int .i64 (st.2 : Int)] ∧ Own w B1 5 .u8 (.slice (some ⟨g, 0, none⟩) n c) st.1 ∧ Okst n st
theorem Ds.chg {w w' : World} {S : Nat → Prop} {B0 B1 d n : Nat} {SA : Option Addr} {sc : Nat} {MA : Option Addr} {mc : Nat} {sub mask : List Int} {g c : Nat} {st : List Int × Nat} (h : Ds w B0 B1 d n SA sc MA mc sub mask g c st) (hc : Chg S w w') (hs : ∀ b, B0 ≤ b → b < B1 → ¬ S b) (hg : ¬ S g) : Ds w' B0 B1 d n SA sc MA mc sub mask g c st :=
  ⟨h.1.chg hc (fun b h0 hb _ => hs b h0 hb), h.2.1.chg hc (hs d h.1.dge h.1.dlt), own_chg h.2.2.1 hc (fun b hb => by simp [Value.ownBlock] at hb; subst hb; exact hg), h.2.2.2⟩
theorem Ds.keep {w w' : World} {B0 B1 d n : Nat} {SA : Option Addr} {sc : Nat} {MA : Option Addr} {mc : Nat} {sub mask : List Int} {g c : Nat} {st : List Int × Nat} (h : Ds w B0 B1 d n SA sc MA mc sub mask g c st) (hc : Chg NoB w w') : Ds w' B0 B1 d n SA sc MA mc sub mask g c st := h.chg hc (fun _ _ _ e => e) (fun e => e)
theorem Ds.weak {w : World} {B0 B1 d n : Nat} {SA : Option Addr} {sc : Nat} {MA : Option Addr} {mc : Nat} {sub mask : List Int} {g c : Nat} {st : List Int × Nat} (h : Ds w B0 B1 d n SA sc MA mc sub mask g c st) : Dw w B0 B1 d n SA sc MA mc sub mask := ⟨h.1, _, _, h.2.1⟩
theorem Dw.chg {w w' : World} {S : Nat → Prop} {B0 B1 d n : Nat} {SA : Option Addr} {sc : Nat} {MA : Option Addr} {mc : Nat} {sub mask : List Int} (h : Dw w B0 B1 d n SA sc MA mc sub mask) (hc : Chg S w w') (hs : ∀ b, B0 ≤ b → b < B1 → ¬ S b) : Dw w' B0 B1 d n SA sc MA mc sub mask := by
  obtain ⟨hf, v, k, hb⟩ := h
  exact ⟨hf.chg hc (fun b h0 hb _ => hs b h0 hb), v, k, hb.chg hc (hs d hf.dge hf.dlt)⟩
/-- What Reset leaves. -/
def WasReset (w : World) (B0 B1 d n : Nat) (SA : Option Addr) (sc : Nat) (MA : Option Addr) (mc : Nat) (sub mask : List Int) (e : Ending) (w' : World) : Prop :=
  e = .returned (.tuple #[]) ∧ Chg (fun b => b = d) w w' ∧ ∃ g c, Ds w' B0 B1 d n SA sc MA mc sub mask g c (mask, 0) ∧ w.heap.size ≤ g
set_option maxRecDepth 100000 in
set_option maxHeartbeats 1000000 in
theorem reset_any (B0 B1 d n : Nat) (SA : Option Addr) (sc : Nat) (MA : Option Addr) (mc : Nat) (sub mask : List Int) (w : World) (h : Dw w B0 B1 d n SA sc MA mc sub mask) (hB : B1 ≤ w.heap.size) :
    Calls Tryd.prog 18 #[.pointer (some ⟨d, 0, none⟩)] w (WasReset w B0 B1 d n SA sc MA mc sub mask) := by
  obtain ⟨hf, v, k, hb⟩ := h
  have HF := As.mk hf
  have HB := As.mk hb
  have x1 := hb.cell 1
  simp only [List.getElem?_cons_zero, List.getElem?_cons_succ] at x1
  have HM : As (n = mask.length) := ⟨hf.lm.symm⟩
  clear hf hb
  go_enter Tryd.func18, Tryd.ntmps18
  go_wp2_with (at_builtin; refine wpList_append_e rfl _ _ 22 rfl 5 .u8 1 Tryd.underlying22 info8 (by decide) none w.heap.size mask MA n mc rfl rfl HM.out HF.out.rm.1 (Nat.le_refl _) (by have := HF.out.lm; have := HF.out.n2; omega) ?_
               intro v1 w1 ho1 hc1
               have hpos : 0 < mask.length := by have := HF.out.lm; have := HF.out.n1; omega
               have hw1 := ow_own ho1 hpos
               obtain ⟨g, c, rfl, _, hg1, hg2⟩ := own_form_pos hw1 hpos
               rw [← HM.out] at hw1
               rw [← HM.out]
               have HO1 := As.mk hw1
               have HC1 := As.mk hc1
               have HG := As.mk hg1
               have b1 := HB.out.chg hc1 (fun e => e)
               have B1' := As.mk b1
               have y0 := b1.frozen 2
               have y1 := b1.frozen 3
               have z2 := b1.cell 2
               have z3 := b1.cell 3
               simp only [List.getElem?_cons_zero, List.getElem?_cons_succ] at z2 z3
               clear ho1 hc1 hw1 hg1 hg2 b1 hpos)
  go_end0
  have hfin := ((Chg.refl (fun b => b = d) w1).setCell (p := ⟨d, 2, none⟩) (.slice (some ⟨g, 0, none⟩) n c) (fun _ => rfl)).setCell (p := ⟨d, 3, none⟩) (.int .i64 0) (fun _ => rfl)
  have hdl := HB.out.lt
  refine ⟨rfl, (HC1.out.mono (fun _ _ e => e.elim)).trans hfin (fun _ _ e => e), g, c, ⟨(HF.out.chg HC1.out (fun _ _ _ _ e => e)).chg hfin (fun b _ _ hb e => hb e), (B1'.out.set_ 2 _).set_ 3 _, own_lower (own_chg HO1.out hfin (fun b hb e => by simp [Value.ownBlock] at hb; have := HG.out; omega)) hB, HF.out.lm, HF.out.bm, by have := HF.out.n1; omega⟩, HG.out⟩
/-- What Write leaves. -/
def WasMixed (w : World) (B0 B1 d n : Nat) (SA : Option Addr) (sc : Nat) (MA : Option Addr) (mc : Nat) (sub mask : List Int) (g c : Nat) (st : List Int × Nat) (m : Nat) (e : Ending) (w' : World) : Prop :=
  e = .returned (.tuple #[.int .i64 m, .nilIface]) ∧ Chg (fun b => b = d ∨ b = g) w w' ∧ Ds w' B0 B1 d n SA sc MA mc sub mask g c st
set_option maxRecDepth 100000 in
set_option maxHeartbeats 4000000 in
theorem write_any (B0 B1 d n : Nat) (SA : Option Addr) (sc : Nat) (MA : Option Addr) (mc : Nat) (sub mask : List Int) (g c : Nat) (st : List Int × Nat) (P : Option Addr) (m pc : Nat) (ps : List Int) (w : World) (h : Ds w B0 B1 d n SA sc MA mc sub mask g c st) (hm : m = ps.length) (hp : Rf (fun b => b ≠ d ∧ b ≠ g) w P ps) (hb : Byt ps) :
    Calls Tryd.prog 45 #[.pointer (some ⟨d, 0, none⟩), .slice P m pc] w (WasMixed w B0 B1 d n SA sc MA mc sub mask g c (dmix sub n st ps) m) := by
  have HD := As.mk h
  have HP := As.mk hp
  have HBY := As.mk hb
  have HM := As.mk hm
  have hm63 : m ≤ 9223372036854775807 := by have := hp.1.1; omega
  have hn1 : 1 ≤ n := h.1.n1
  have hn2 : n ≤ 64 := h.1.n2
  have x1 := h.2.1.cell 2
  simp only [List.getElem?_cons_zero, List.getElem?_cons_succ] at x1
  clear h hp hb hm
  go_enter Tryd.func45, Tryd.ntmps45
  go_wp2
  go_loopw [16] (fun i wr => ∃ j : Nat, j ≤ m ∧ i = .int .i64 j ∧ As (Ds wr B0 B1 d n SA sc MA mc sub mask g c (dmix sub n st (ps.take j))) ∧ As (Chg (fun b => b = d ∨ b = g) w wr)) (fun i _ => m - (intOf i).toNat)
  case atStart => exact ⟨0, by omega, rfl, ⟨by simpa [dmix] using HD.out⟩, ⟨Chg.refl _ _⟩⟩
  case round =>
    clear x1
    obtain ⟨j, hj, rfl, HS, HC⟩ := hrel
    by_cases hlt : j < m
    · obtain ⟨ad, rfl, cp⟩ := (HP.out.chg HC.out (fun b _ hb e => by rcases e with e | e; exact hb.1 e; exact hb.2 e)).1.at_ (j : Int) (by omega) (by have := HM.out; omega)
      rw [Int.toNat_natCast] at cp
      have HST := As.mk (dmix_take (sub := sub) (n := n) (st := st) (xs := ps) (k := j) (by have := HM.out; omega))
      have hpb : IsB (rd ps (j : Int)) := HBY.out.rd _
      generalize hb : rd ps (j : Int) = b at *
      generalize hs : dmix sub n st (ps.take j) = s at *
      obtain ⟨hf, hbl, how, hok⟩ := HS.out
      have HOK := As.mk hok
      have hk : s.2 < n := hok.2.2
      obtain ⟨hf0, hfz⟩ := own_at how s.2 (by rw [hok.1]; exact hk)
      obtain ⟨k, hkk⟩ : ∃ k, k = s.2 := ⟨_, rfl⟩
      obtain ⟨k1, hk1⟩ : ∃ k1, k1 = (k + 1) % n := ⟨_, rfl⟩
      have hk1n : k1 < n := by rw [hk1]; exact Nat.mod_lt _ (by omega)
      obtain ⟨hf1, _⟩ := own_at how k1 (by rw [hok.1]; exact hk1n)
      rw [← hkk] at hf0 hfz hbl hk
      have hq0 : IsB (rd s.1 (k : Int)) := hok.2.1.rd _
      have hq1 : IsB (rd s.1 (k1 : Int)) := hok.2.1.rd _
      obtain ⟨t, ht⟩ := Int.eq_ofNat_of_zero_le (x8_byte hq0 hpb).1
      have ht2 : t < 256 := by have := (x8_byte hq0 hpb).2; omega
      obtain ⟨sa, hsa, csub⟩ := hf.rs.1.at_ (t : Int) (by omega) (by rw [hf.ls]; omega)
      rw [Int.toNat_natCast] at csub
      have hq2 : IsB (rd sub (t : Int)) := hf.bs.rd _
      have c0 := hbl.cell 0
      have c2 := hbl.cell 2
      have c3 := hbl.cell 3
      have fz3 := hbl.frozen 3
      simp only [List.getElem?_cons_zero, List.getElem?_cons_succ] at c0 c2 c3
      rw [hsa] at c0
      have hgd : g ≠ d := by have := (own_blocks how).1; have := hf.dlt; omega
      have HGB : As (B1 ≤ g) := ⟨(own_blocks how).1⟩
      have hset := own_set how k (X8 (rd sub (t : Int)) (rd s.1 (k1 : Int)))
      have HNEW : As (dst sub n s b = (s.1.set k (X8 (rd sub (t : Int)) (rd s.1 (k1 : Int))), k1)) := ⟨by
        unfold dst
        rw [← hkk, ht, ← hk1]⟩
      have HSET := As.mk hset
      have HBL := As.mk hbl
      have HFF := As.mk hf
      have HK := As.mk hkk
      have hx1 : Go.bits .xor .u8 (rd s.1 (k : Int)) b = (t : Int) := ht
      have hmod : (((k : Int) + 1).tmod (n : Int)) = (k1 : Int) := by
        rw [hk1]
        have h1 : ((k : Int) + 1) = ((k + 1 : Nat) : Int) := by omega
        rw [h1]
        exact Int.ofNat_tmod _ _
      have hmod2 : (((k : Int) + 1) % (n : Int)) = (k1 : Int) := by
        rw [hk1, show ((k : Int) + 1) = ((k + 1 : Nat) : Int) from by omega]
        exact (Int.natCast_emod _ _).symm
      have ht3 : (t : Int) < 256 := by omega
      have hnz : ((n : Int) == 0) = false := by simp; omega
      have hnz2 : ¬ (n = 0) := by omega
      have hwk1 : IntKind.i64.wrap (k1 : Int) = (k1 : Int) := by simp [IntKind.wrap, IntKind.bits, IntKind.signed]; omega
      have hk1i : (k1 : Int) < (n : Int) := by omega
      have hki : (k : Int) < (n : Int) := by omega
      have hwk : IntKind.i64.wrap ((k : Int) + 1) = (k : Int) + 1 := by simp [IntKind.wrap, IntKind.bits, IntKind.signed]; omega
      generalize hv0 : rd s.1 (k : Int) = q0 at *
      generalize hv1 : rd s.1 (k1 : Int) = q1 at *
      generalize hv2 : rd sub (t : Int) = q2 at *
      have q00 := hq0.1
      have q01 := hq0.2
      have q10 := hq1.1
      have q11 := hq1.2
      have q20 := hq2.1
      have q21 := hq2.2
      have b0 := hpb.1
      have b1 := hpb.2
      clear hset hbl how hok hf hb hs hkk hk1 ht hsa hq0 hq1 hq2 hpb hv0 hv1 hv2
      unfold X8 at HSET HNEW
      go_wp2
      go_still_tail 42, (by kernel_rfl)
      change wpList _ _ _ _ _ (World.drew wr)
      go_wp2
      go_roundw
      case rel =>
        refine ⟨j + 1, by omega, by go_num, ⟨?_⟩, ⟨?_⟩⟩
        · rw [HST.out, HNEW.out]
          have hch : Chg (fun b => b = d ∨ b = g) wr ((wr.setCell ⟨g, k, none⟩ (.int .u8 (Go.bits .xor .u8 q2 q1))).setCell ⟨d, 3, none⟩ (.int .i64 (k1 : Int))) := ((Chg.refl (fun b => b = d ∨ b = g) wr).setCell (p := ⟨g, k, none⟩) _ (fun _ => Or.inr rfl)).setCell (p := ⟨d, 3, none⟩) _ (fun _ => Or.inl rfl)
          have hok2 : Okst n (dst sub n s b) := okst_dst HFF.out.bs hn1 HOK.out
          rw [HNEW.out] at hok2
          have hdd : Chg (fun b => b = d) (wr.setCell ⟨g, k, none⟩ (.int .u8 (Go.bits .xor .u8 q2 q1))) ((wr.setCell ⟨g, k, none⟩ (.int .u8 (Go.bits .xor .u8 q2 q1))).setCell ⟨d, 3, none⟩ (.int .i64 (k1 : Int))) := (Chg.refl (fun b => b = d) _).setCell (p := ⟨d, 3, none⟩) _ (fun _ => rfl)
          exact ⟨(HFF.out.chg hch (fun b _ hb hne e => by have := HGB.out; rcases e with e | e; exact hne e; omega)).chg ((Chg.refl NoB _).drew) (fun _ _ _ _ e => e), ((HBL.out.far (p := ⟨g, k, none⟩) (fun e => hgd e.symm) _).set_ 3 _).drew, own_keep (own_chg HSET.out hdd (fun b hb e => by simp [Value.ownBlock] at hb; omega)) ((Chg.refl NoB _).drew), hok2⟩
        · exact ((HC.out.setCell (p := ⟨g, k, none⟩) _ (fun _ => Or.inr rfl)).setCell (p := ⟨d, 3, none⟩) _ (fun _ => Or.inl rfl)).drew
      case measure => simp [intOf]; omega
    · obtain rfl : j = m := by omega
      go_wp2
      go_ret2
      refine ⟨rfl, HC.out, ?_⟩
      have := HS.out
      rwa [List.take_of_length_le (by have := HM.out; omega)] at this
/-- What Sum leaves. -/
def WasSummed (w : World) (B1 : Nat) (v : Value) (xs ys : List Int) (e : Ending) (w' : World) : Prop :=
  ∃ v', e = .returned v' ∧ Ow w' B1 5 .u8 v' (xs ++ ys) ∧ Chg (OvS B1 v) w w'
set_option maxRecDepth 100000 in
set_option maxHeartbeats 1000000 in
theorem sum_any (B0 B1 d n : Nat) (SA : Option Addr) (sc : Nat) (MA : Option Addr) (mc : Nat) (sub mask : List Int) (g c : Nat) (st : List Int × Nat) (v : Value) (xs : List Int) (w : World) (h : Ds w B0 B1 d n SA sc MA mc sub mask g c st) (ho : Ow w B1 5 .u8 v xs) (hB : B1 ≤ w.heap.size) (hl : xs.length ≤ 1048576) :
    Calls Tryd.prog 44 #[.pointer (some ⟨d, 0, none⟩), v] w (WasSummed w B1 v xs st.1) := by
  have HO := As.mk ho
  have x1 := h.2.1.cell 2
  simp only [List.getElem?_cons_zero, List.getElem?_cons_succ] at x1
  have hr := own_reads h.2.2.1
  have HR := As.mk hr
  have HN : As (n = st.1.length) := ⟨h.2.2.2.1.symm⟩
  have hn2 := h.1.n2
  clear h ho hr
  go_enter Tryd.func44, Tryd.ntmps44
  go_wp2_with (at_builtin; refine wpList_append_ow rfl _ _ 22 rfl 5 .u8 1 Tryd.underlying22 info8 (by decide) v B1 xs st.1 (some ⟨g, 0, none⟩) n c rfl rfl HN.out HO.out HR.out hB (by have := HN.out; omega) ?_
               intro v1 w1 ho1 hc1
               have HO1 := As.mk ho1
               have HC1 := As.mk hc1
               clear ho1 hc1)
  go_ret
  exact ⟨v1, rfl, HO1.out, HC1.out⟩
end Go.Proofs.YtdofkokeebgigaaDoor
