/- The contract of bufio.Writer's Write over a sink, of at most 4096 bytes. -/
import Derived.Test.YtphnjfbaioblbaaDoorBufW2
set_option linter.unusedVariables false
set_option linter.unusedSimpArgs false
namespace Go.Proofs.YtphnjfbaioblbaaDoor
open Go.RowKit V
theorem wpList_copy_bw {ops : Array Oper} {rest : List Oper} {o : Oper} {a : Act} {Q : Exit → Act → World → Prop} {w : World} (hgd : o.guard = none) (d s : Operand)
    (ho : o.op = .call { callee := .builtin .copy, args := #[d, s], argTypes := #[25, 25] }) (base bf bb g n L : Nat) (F : Nat → Prop) (HB : Bw w base bf bb g F n L)
    (dA : Option Addr) (off m dc : Nat) (hoff : off + m ≤ 4096) (hd : a.eval d = .slice dA m dc) (hA : 0 < m → dA = some ⟨bb, off, none⟩)
    (A : Option Addr) (ys : List Int) (k c : Nat) (hk : k = ys.length) (hs : a.eval s = .slice A k c) (HR : Rb w A ys)
    (h : ∀ w1, Bw w1 base bf bb g F n L → Chg (fun b => b = bb) w w1 → wpList Tryd.prog ops Q rest (a.put o.dst (goInt ((min k m : Nat) : Int))) w1) :
    wpList Tryd.prog ops Q (o :: rest) a w := by
  obtain ⟨Fs, xs, zs, h1, h2, h3, h4, h5, h6, h7, h8, h8', h9⟩ := HB.ex
  subst hk
  refine wpList_copy_rk (et := 5) hgd d s 25 25 ho base 5 .u8 Tryd.underlying25 size8 bb 4096 zs (by rw [h4]; exact h6) dA off m dc (by omega) hd hA A ys c hs HR ?_
  intro w1 ho1 hg1
  have hc : Chg (fun b => b = bb) w w1 := (grown_chg hg1).mono (fun i _ e => by injection e with e; exact e.symm)
  have hl : (splice zs off (ys.take m)).length = 4096 := by
    have := (own_len ho1).symm
    rw [h4] at this; exact this
  rw [h4] at ho1
  exact h w1 ⟨Fs, xs, _, h1.chg hc (fun b e q => h8' (q ▸ e)), h2, h3, hl, h5.chg hc (fun e => h7 e), ho1, h7, h8, h8', h9⟩ hc
def buffered (w : World) (bf : Nat) : Nat := match w.cell? ⟨bf, 2, none⟩ with | some v => (intOf v).toNat | none => 0
theorem Bw.buffered {w : World} {base bf bb g n L : Nat} {F : Nat → Prop} (h : Bw w base bf bb g F n L) : buffered w bf = n := by
  have h2 := h.blk.cell 2
  simp only [bwCells, List.getElem?_cons_zero, List.getElem?_cons_succ] at h2
  unfold Go.Proofs.YtphnjfbaioblbaaDoor.buffered
  rw [h2]; simp [intOf]
/-- The loop's state: j bytes are written. -/
structure WSt (w : World) (base bf bb g : Nat) (F : Nat → Prop) (L : Nat) (ys : List Int) (j d : Nat) (A' : Option Addr) (c' n' : Nat) (F' : Nat → Prop) (w' : World) : Prop where
  bw : Bw w' base bf bb g F' n' (L + j)
  chg : Chg F w w'
  grew : Grew F w F'
  jd : j + d = ys.length
  c : d ≤ c'
  rd : Rf (fun b => b < w.heap.size ∧ ¬ F b) w' A' (ys.drop j)
set_option maxRecDepth 100000 in
set_option maxHeartbeats 2000000 in
theorem bufWrite_any (base bf bb g n L k c : Nat) (F : Nat → Prop) (A : Option Addr) (ys : List Int) (w : World) (hs : Bw w base bf bb g F n L) (hb : base ≤ w.heap.size) (hl : L + k ≤ 140737488355320) (hk : k = ys.length) (hk2 : k ≤ 4096) (hc : k ≤ c) (ry : Rf (fun b => b < w.heap.size ∧ ¬ F b) w A ys) :
    Calls Tryd.prog 37 #[.pointer (some ⟨bf, 0, none⟩), .slice A k c] w fun e w' => e = .returned (.tuple #[.int .i64 k, .nilIface]) ∧ ∃ n', BwLeft w base bf bb g F n' (L + k) w' := by
  have HS0 : As (WSt w base bf bb g F L ys 0 k A c n F w) := ⟨⟨hs, Chg.refl _ _, Grew.refl _ _, by omega, hc, by simpa using ry⟩⟩
  have HK := As.mk hk
  clear hs ry hk
  go_enter Tryd.func37, Tryd.ntmps37
  go_wp2_with fail
  go_loopw [1, 4, 6] (fun p nn _ w' => ∃ (j d : Nat) (A' : Option Addr) (c' n' : Nat) (F' : Nat → Prop), p = .slice A' d c' ∧ nn = .int .i64 j ∧ As (WSt w base bf bb g F L ys j d A' c' n' F' w')) (fun _ _ _ w' => buffered w' bf)
  case atStart => exact ⟨0, k, A, c, n, F, rfl, rfl, HS0⟩
  case round =>
    clear HS0
    obtain ⟨j, d, A', c', n', F', rfl, rfl, HST⟩ := hrel
    obtain ⟨hbw, hch, hgr, hjd, hc', hrd⟩ := HST.out
    have hn' := hbw.small
    have hbr : base ≤ wr.heap.size := Nat.le_trans hb hch.size
    have hdk : d ≤ 4096 := by have := HK.out; omega
    have HBR := As.mk hbr
    have c0 := hbw.blk.cell 0
    simp only [bwCells, List.getElem?_cons_zero, List.getElem?_cons_succ] at c0
    have HBW := As.mk hbw
    have HCH := As.mk hch
    have HGR := As.mk hgr
    have HJD := As.mk hjd
    have HRD := As.mk hrd
    clear hbw hch hgr hjd hrd HST hbr
    obtain ⟨m, hm⟩ : ∃ m, m = 4096 - n' := ⟨_, rfl⟩
    have HM := As.mk hm
    go_wp2_with fail
    refine (bufAvail_any base bf bb g n' (L + j) F' _ HBW.out).mono ?_
    rintro e w1 ⟨rfl, hc1⟩
    rw [← hm]
    clear hm
    have HC1 : As (Chg F w w1) := ⟨HCH.out.trans hc1 (fun _ _ e => e.elim)⟩
    have HB1 : As (Bw w1 base bf bb g F' n' (L + j)) := ⟨HBW.out.chg hc1 (fun _ _ e => e)⟩
    have HR1 : As (Rf (fun b => b < w.heap.size ∧ ¬ F b) w1 A' (ys.drop j)) := ⟨HRD.out.keep hc1⟩
    have HD1 : As (d = (ys.drop j).length) := ⟨by rw [List.length_drop]; have := HJD.out; omega⟩
    have HZ1 : As (base ≤ w1.heap.size) := ⟨Nat.le_trans HBR.out hc1.size⟩
    clear hc1
    have d0 := HB1.out.blk.cell 0
    have d1 := HB1.out.blk.cell 1
    have d2 := HB1.out.blk.cell 2
    have f2 := HB1.out.blk.frozen 2
    simp only [bwCells, List.getElem?_cons_zero, List.getElem?_cons_succ] at d0 d1 d2
    obtain ⟨A2, hcut, hA2, _⟩ := cut_from (P := Tryd.prog) 25 5 Tryd.underlying25 size8 (some ⟨bb, 0, none⟩) 4096 4096 n' .i64 m m (by omega) (by have := HM.out; omega) (by have := HM.out; omega) (by omega)
    have HA2 := As.mk hA2
    clear hA2
    by_cases hmd : m < d
    · have t1 : (m : Int) < (d : Int) := by omega
      have t2 : ((n' : Int) == 0) = false := by have := HM.out; simp; omega
      have e1 : IntKind.i64.wrap ((n' : Int) + (m : Int)) = 4096 := by have := HM.out; rw [IntKind.wrap_i64]; omega
      have e2 : IntKind.i64.wrap ((j : Int) + (m : Int)) = ((j + m : Nat) : Int) := by have := HK.out; have := HJD.out; rw [IntKind.wrap_i64]; omega
      obtain ⟨A3, hcut3, hrd3⟩ := cut_from_f (P := Tryd.prog) 25 5 Tryd.underlying25 size8 A' d c' m .i64 (d - m) (c' - m) (by omega) (by omega) (by omega) hc'
      have HR3 := As.mk hrd3
      clear hrd3
      go_wp2_with fail
      refine (bufBuffered_any base bf bb g n' (L + j) F' _ HB1.out).mono ?_
      rintro e w2 ⟨rfl, rfl⟩
      go_wp2_with fail
      have HOLD : As (∀ i, i < w.heap.size → F' i → F i) := ⟨fun i hi e => by rcases HGR.out i e with h | h; exact h; omega⟩
      have hFin := HB1.out.in_
      have hmin : min d m = m := by omega
      go_still_tail 10, (by kernel_rfl)
      refine wpList_copy_bw rfl _ _ rfl base bf bb g n' (L + j) F' (HB1.out.chg (Chg.refl NoB _).drew (fun _ _ e => e)) A2 n' m m (by have := HM.out; omega) rfl (fun h => by rw [HA2.out h]; simp [Addr.add]; omega) A' (ys.drop j) d c' HD1.out rfl HR1.out.1.drew ?_
      intro w3 hb3 hc3
      rw [hmin]
      have HB3 := As.mk hb3
      have HC3 : As (Chg F w w3) := ⟨(HC1.out.drew).trans hc3 (fun i hi e => HOLD.out i hi (e ▸ hFin.2))⟩
      have HR3' : As (Rf (fun b => b < w.heap.size ∧ ¬ F b) w3 A' (ys.drop j)) := ⟨(HR1.out.keep ((Chg.refl NoB _).drew)).chg hc3 (fun b _ h e => h.2 (HOLD.out b h.1 (e ▸ hFin.2)))⟩
      have g2 := hb3.blk.cell 2
      have f3 := hb3.blk.frozen 2
      have hcnt : Bw (w3.setCell ⟨bf, 2, none⟩ (.int .i64 4096)) base bf bb g F' 4096 (L + j + m) := hb3.count (n' := 4096) (by omega) (by have := HM.out; omega)
      have HCNT := As.mk hcnt
      have HZ3 := As.mk (Nat.le_trans hb HC3.out.size)
      simp only [bwCells, List.getElem?_cons_zero, List.getElem?_cons_succ] at g2
      clear hb3 hc3 hcnt d0 d1 d2 f2 c0
      go_wp2_with fail
      refine (bufFlush_any base bf bb g 4096 (L + j + m) F' _ HCNT.out (by have := HZ3.out; simpa using this) (by have := HK.out; have := HJD.out; omega)).mono ?_
      rintro e w4 ⟨rfl, F4, hb4, hc4, hg4⟩
      have HC4 : As (Chg F w w4) := ⟨((HC3.out).setCell (p := ⟨bf, 2, none⟩) _ (fun h => HOLD.out _ h hFin.1)).trans hc4 (fun i hi e => HOLD.out i hi e)⟩
      have HR4 : As (Rf (fun b => b < w.heap.size ∧ ¬ F b) w4 A' (ys.drop j)) := ⟨(HR3'.out.chg ((Chg.refl F' w3).setCell (p := ⟨bf, 2, none⟩) (.int .i64 4096) (fun _ => hFin.1)) (fun b _ h e => h.2 (HOLD.out b h.1 e))).chg hc4 (fun b _ h e => h.2 (HOLD.out b h.1 e))⟩
      have HB4 := As.mk hb4
      have HG4 : As (Grew F w F4) := ⟨fun b h => by
        rcases hg4 b h with h1 | h1
        · exact HGR.out b h1
        · exact .inr (Nat.le_trans HC3.out.size (by simpa using h1))⟩
      clear hb4 hc4 hg4
      go_wp2_with fail
      go_roundw
      case rel =>
        refine ⟨j + m, d - m, A3, c' - m, 0, F4, rfl, rfl, ⟨⟨by rw [← Nat.add_assoc]; exact HB4.out, HC4.out, HG4.out, by have := HJD.out; omega, by omega, ?_⟩⟩⟩
        have h := HR3.out _ w4 (ys.drop j) HD1.out.symm HR4.out
        rw [Int.toNat_natCast, List.drop_drop] at h
        exact h
      case measure => show buffered w4 bf < buffered wr bf; rw [HB4.out.buffered, HBW.out.buffered]; have := HM.out; omega
    · have t1 : ¬ (m : Int) < (d : Int) := by omega
      have e1 : IntKind.i64.wrap ((n' : Int) + (d : Int)) = ((n' + d : Nat) : Int) := by have := HM.out; rw [IntKind.wrap_i64]; omega
      have e2 : IntKind.i64.wrap ((j : Int) + (d : Int)) = (k : Int) := by have := HK.out; have := HJD.out; rw [IntKind.wrap_i64]; omega
      have HOLD : As (∀ i, i < w.heap.size → F' i → F i) := ⟨fun i hi e => by rcases HGR.out i e with h | h; exact h; omega⟩
      have hFin := HB1.out.in_
      have hmin : min d m = d := by omega
      go_wp2_with fail
      go_still_tail 10, (by kernel_rfl)
      refine wpList_copy_bw rfl _ _ rfl base bf bb g n' (L + j) F' (HB1.out.chg (Chg.refl NoB _).drew (fun _ _ e => e)) A2 n' m m (by have := HM.out; omega) rfl (fun h => by rw [HA2.out h]; simp [Addr.add]; omega) A' (ys.drop j) d c' HD1.out rfl HR1.out.1.drew ?_
      intro w3 hb3 hc3
      rw [hmin]
      have HB3 := As.mk hb3
      have HC3 : As (Chg F w w3) := ⟨(HC1.out.drew).trans hc3 (fun i hi e => HOLD.out i hi (e ▸ hFin.2))⟩
      have g2 := hb3.blk.cell 2
      have f3 := hb3.blk.frozen 2
      simp only [bwCells, List.getElem?_cons_zero, List.getElem?_cons_succ] at g2
      clear hb3 hc3 d0 d1 d2 f2 c0
      go_wp2_with fail
      go_ret2
      refine ⟨rfl, n' + d, F', HB3.out.count (n' := n' + d) (L' := L + k) (by have := HM.out; omega) (by have := HK.out; have := HJD.out; omega), ?_, HGR.out⟩
      exact HC3.out.setCell (p := ⟨bf, 2, none⟩) _ (fun h => HOLD.out _ h hFin.1)
end Go.Proofs.YtphnjfbaioblbaaDoor
