/- impl.many: the signatures of plain data as the package has them. -/
import Derived.Test.YtdcamebmbadmbaaFields
import Derived.Test.YtdcamebmbadmbaaRow
import Derived.Deep.MidRow
import Derived.Laws.Tables
set_option linter.unusedVariables false
set_option linter.unusedSimpArgs false
namespace Go.Proofs.Ytdcamebmbadmbaa
open Go.RowKit V
theorem infoSig : (Try.prog.info? 41).map (fun i => (i.zero, i.size, i.bytes)) = some (some (.agg inZero.toArray), 45, 568) := by kernel_rfl
theorem sizeSig : (Try.prog.info? 41).map (·.size) = some 45 := by kernel_rfl
theorem infoSigPtr : (Try.prog.info? 56).map (fun i => (i.zero, i.size, i.bytes)) = some (some (.pointer none), 1, 8) := by kernel_rfl
theorem inOne (k t : Int) : ∀ u ∈ inCells k t, u.oneCell' = true := by
  intro u hu
  simp only [inCells, List.mem_cons, List.mem_nil_iff, or_false] at hu
  repeat (first | (rcases hu with rfl | hu; · rfl) | (subst hu; rfl))
/-- A row of signatures as data, each by its kind and its time. -/
def SRow (w : World) (base : Nat) (v : Value) (l : List (Int × Int)) : Prop := w.ownsRow base 41 45 v l.length (l.flatMap fun p => inCells p.1 p.2)
theorem SRow.keep {w w' : World} {base : Nat} {v : Value} {l : List (Int × Int)} (h : SRow w base v l) (hc : Chg NoB w w') : SRow w' base v l := row_keep h hc
theorem SRow.at_ {w : World} {base : Nat} {v : Value} {l : List (Int × Int)} (h : SRow w base v l) :
    ∃ A c, v = .slice A l.length c ∧ l.length ≤ c ∧ l.length ≤ 9223372036854775807 ∧ ∀ (i : Nat) (p : Int × Int), l[i]? = some p → ∃ g : Nat, A = some ⟨g, 0, none⟩ ∧ base ≤ g ∧ g < w.heap.size ∧ w.rangeAt g (i * 45) (inCells p.1 p.2) := by
  obtain ⟨A, c, hv, hc, hm, hg⟩ := row_form h
  refine ⟨A, c, hv, hc, hm, fun i p hip => ?_⟩
  have hil : i < l.length := (List.getElem?_eq_some_iff.1 hip).1
  obtain ⟨g, hA, hb, hlt, hob, hcell⟩ := hg (by omega)
  refine ⟨g, hA, hb, hlt, fun j u hu => hcell _ _ ?_⟩
  have hj : j < 45 := (List.getElem?_eq_some_iff.1 hu).1
  rw [flat_at (fun p : Int × Int => inCells p.1 p.2) 45 (fun _ => rfl) l i p j hip hj]
  exact hu
/-- A row of pointers, each to a signature of the package's in a block of its own. -/
def MRow (w : World) (base : Nat) (v : Value) (l : List (Int × Int)) : Prop :=
  ∃ gs : List Nat, gs.length = l.length ∧ w.ownsRow base 56 1 v l.length (gs.map fun g => .pointer (some ⟨g, 0, none⟩)) ∧
    ∀ (i : Nat) (g : Nat) (p : Int × Int), gs[i]? = some g → l[i]? = some p → v.ownBlock ≠ some g ∧ base ≤ g ∧ Blk w g 95 (outCells p.1 p.2 (.pointer none))
theorem MRow.nil (w : World) (base : Nat) : MRow w base (.slice none 0 0) [] := ⟨[], rfl, World.ownsRow_nil _ _ _ _, fun i g p h => by simp at h⟩
theorem MRow.keep {w w' : World} {base : Nat} {v : Value} {l : List (Int × Int)} (h : MRow w base v l) (hc : Chg NoB w w') : MRow w' base v l := by
  obtain ⟨gs, hl, ho, hi⟩ := h
  refine ⟨gs, hl, row_keep ho hc, fun i g p h1 h2 => ?_⟩
  obtain ⟨a, b, c⟩ := hi i g p h1 h2
  exact ⟨a, b, c.chg hc (fun e => e)⟩
theorem MRow.at_ {w : World} {base : Nat} {v : Value} {l : List (Int × Int)} (h : MRow w base v l) :
    ∃ A c, v = .slice A l.length c ∧ l.length ≤ c ∧ l.length ≤ 9223372036854775807 ∧ ∀ (i : Nat) (p : Int × Int), l[i]? = some p → ∃ g q : Nat, A = some ⟨g, 0, none⟩ ∧ w.cell? ⟨g, i, none⟩ = some (.pointer (some ⟨q, 0, none⟩)) ∧ Blk w q 95 (outCells p.1 p.2 (.pointer none)) := by
  obtain ⟨gs, hl, ho, hi⟩ := h
  obtain ⟨A, c, hv, hc, hm, hg⟩ := row_form ho
  refine ⟨A, c, hv, hc, hm, fun i p hip => ?_⟩
  have hil : i < l.length := (List.getElem?_eq_some_iff.1 hip).1
  obtain ⟨g, hA, hb, hlt, hob, hcell⟩ := hg (by omega)
  have hgs : gs[i]? = some gs[i] := List.getElem?_eq_getElem (by omega)
  exact ⟨g, gs[i], hA, hcell i _ (by simp [hgs]), (hi i _ p hgs hip).2.2⟩
theorem MRow.snoc {w w1 : World} {base : Nat} {v v1 : Value} {l : List (Int × Int)} {gs : List Nat} {q : Nat} {p : Int × Int}
    (hl : gs.length = l.length) (ho : w.ownsRow base 56 1 v l.length (gs.map fun g => .pointer (some ⟨g, 0, none⟩)))
    (hi : ∀ (i : Nat) (g : Nat) (p : Int × Int), gs[i]? = some g → l[i]? = some p → v.ownBlock ≠ some g ∧ base ≤ g ∧ Blk w g 95 (outCells p.1 p.2 (.pointer none)))
    (hp : v.ownBlock ≠ some q ∧ base ≤ q ∧ Blk w q 95 (outCells p.1 p.2 (.pointer none)))
    (h2 : w1.ownsRow base 56 1 v1 (l.length + 1) ((gs.map fun g => Value.pointer (some ⟨g, 0, none⟩)) ++ [.pointer (some ⟨q, 0, none⟩)])) (h3 : w.grownBy w1 v.ownBlock) (h5 : v1.ownBlock = v.ownBlock ∨ v1.ownBlock = some w.heap.size) :
    MRow w1 base v1 (l ++ [p]) := by
  have hf : ∀ (g : Nat) (p : Int × Int), (v.ownBlock ≠ some g ∧ base ≤ g ∧ Blk w g 95 (outCells p.1 p.2 (.pointer none))) → v1.ownBlock ≠ some g ∧ base ≤ g ∧ Blk w1 g 95 (outCells p.1 p.2 (.pointer none)) := fun g p ⟨a, b, c⟩ => by
    refine ⟨?_, b, c.chg (grown_chg h3) (fun e => a e)⟩
    rcases h5 with h5 | h5
    · rw [h5]; exact a
    · rw [h5]; intro e; injection e with e; have := c.lt; omega
  refine ⟨gs ++ [q], by simp [hl], ?_, fun i x y hx hy => ?_⟩
  · rw [List.length_append, List.map_append]
    simpa using h2
  · rcases Nat.lt_or_ge i gs.length with h | h
    · rw [List.getElem?_append_left h] at hx
      rw [List.getElem?_append_left (by omega)] at hy
      exact hf _ _ (hi i x y hx hy)
    · rw [List.getElem?_append_right h] at hx
      rw [List.getElem?_append_right (by omega)] at hy
      rw [hl] at hx
      have : i - l.length = 0 := by
        rcases Nat.eq_zero_or_pos (i - l.length) with h0 | h0
        · exact h0
        · rw [List.getElem?_eq_none (by simp; omega)] at hx; cases hx
      rw [this] at hx hy
      simp at hx hy
      subst hx hy
      exact hf _ _ hp
theorem blk_row (w : World) (t : TypeId) (old cs : List Value) : Blk ((w.alloc (.cells old.toArray t)).setRow w.heap.size cs.toArray) w.heap.size t cs := setRow_heap _ _ old.toArray cs.toArray t (0, 0) (heap_alloc_new w _)
theorem chg_row (w : World) (t : TypeId) (old cs : List Value) : Chg NoB w ((w.alloc (.cells old.toArray t)).setRow w.heap.size cs.toArray) :=
  ((Chg.refl NoB w).alloc (.cells old.toArray t)).trans (S' := fun k => k = w.heap.size) ⟨rfl, rfl, rfl, by simp, fun k _ hk => setRow_other _ _ _ _ (fun e => hk e)⟩ (fun i hi e => by omega)
/-- What impl.many hands back. -/
def ManyOf (w : World) (l : List (Int × Int)) (e : Ending) (w' : World) : Prop := ∃ v, e = .returned v ∧ Chg NoB w w' ∧ MRow w' w.heap.size v l
set_option maxRecDepth 100000 in
set_option maxHeartbeats 4000000 in
theorem many_any (base : Nat) (v : Value) (l : List (Int × Int)) (w : World) (hv : SRow w base v l) (hl : l.length ≤ 1000000) (ht : ∀ p ∈ l, 0 ≤ p.2 ∧ p.2 ≤ 4294967296) :
    Calls Try.prog 9 #[v] w (ManyOf w l) := by
  have HV := As.mk hv
  obtain ⟨A, c, rfl, hlc, hl63, _⟩ := hv.at_
  have HT := As.mk ht
  obtain ⟨n, hn⟩ : ∃ n, n = l.length := ⟨_, rfl⟩
  rw [← hn] at hlc hl hl63
  have HN := As.mk hn
  clear hv ht
  rw [← hn]
  clear hn
  go_enter Try.func9, Try.ntmps9
  go_wp2
  go_loopw [3, 5, 8] (fun r _ i w' => ∃ (k : Nat) (rv : Value), rv = r ∧ i = .int .i64 k ∧ k ≤ n ∧ As (MRow w' w.heap.size rv (l.take k)) ∧ As (Chg NoB w w')) (fun _ _ i _ => n - (intOf i).toNat)
  case atStart => exact ⟨0, _, rfl, rfl, Nat.zero_le _, ⟨by simpa using MRow.nil _ _⟩, ⟨Chg.refl _ _⟩⟩
  case round =>
    obtain ⟨k, rv, rfl, rfl, hk, HSV, HC'⟩ := hrel
    by_cases hlt : k < n
    · have hltz : (k : Int) < (n : Int) := by omega
      have HIT : As (l[k]? = some (l[k]'(by have := HN.out; omega))) := ⟨List.getElem?_eq_getElem _⟩
      have HTK : As (l.take (k + 1) = l.take k ++ [l[k]'(by have := HN.out; omega)]) := ⟨List.take_succ_eq_append_getElem _⟩
      have HP := As.mk (HT.out _ (List.getElem_mem (by have := HN.out; omega) : l[k]'(by have := HN.out; omega) ∈ l))
      generalize l[k]'(by have := HN.out; omega) = it at *
      obtain ⟨kd, tm⟩ := it
      obtain ⟨_, _, e1, _, _, hat⟩ := (HV.out.keep HC'.out).at_
      injection e1 with e1 e2 e3
      obtain ⟨g, eA, _, hglt, hrg⟩ := hat k _ HIT.out
      rw [← e1] at eA
      subst eA
      have HRG := As.mk hrg
      clear hat hrg e1 e2 e3
      obtain ⟨b, hb⟩ : ∃ b, b = wr.heap.size := ⟨_, rfl⟩
      go_upto_region 5 with (first
        | ((with_reducible refine gate (N := 11) rfl ?_); refine wpList_load_mid rfl 41 _ rfl g (k * 45) ?k0 (inCells kd tm) _ HRG.out Try.underlying41 rfl sizeSig ?_; (case k0 => rfl))
        | refine wpList_store_row rfl 41 (.tmp 5) (.tmp 11) rfl wr.heap.size (inCells kd tm).toArray rfl rfl 41 inZero.toArray (heap_alloc_new _ _) sizeSig rfl (all_oneCell_toArray (inOne kd tm)) ?_)
      refine wp_world (fun w' => Blk w' wr.heap.size 41 (inCells kd tm) ∧ Chg NoB wr w') ?hs ?_
      case hs => exact ⟨blk_row wr 41 inZero (inCells kd tm), chg_row wr 41 inZero (inCells kd tm)⟩
      intro wc hw
      have hbw := hw.1
      have HB := As.mk hbw
      have HCW := As.mk hw.2
      clear hw hbw
      rw [← hb] at HB
      go_upto_region 6 with ((with_reducible refine gate (N := 13) rfl ?_); refine wpList_load_row rfl 41 _ rfl wr.heap.size rfl 41 (inCells kd tm).toArray (0, 0) _ (by rw [← hb]; exact HB.out) Try.underlying41 rfl sizeSig ?_)
      refine (fields_plain kd tm _ HP.out.1 HP.out.2).mono ?_
      rintro e w2 ⟨q, rfl, hq, hbq, hc2⟩
      have HQ := As.mk (Nat.le_trans HCW.out.size hq)
      have HBQ := As.mk hbq
      have HC2 := As.mk (HCW.out.trans hc2 (fun _ _ e => e))
      clear hq hbq hc2 HB hb HCW
      have HLK : As ((l.take k).length = k) := ⟨by rw [List.length_take]; have := HN.out; omega⟩
      obtain ⟨gs, hgl, hgo, hgi⟩ := HSV.out.keep HC2.out
      have HGL := As.mk hgl
      have HGO : As (w2.ownsRow w.heap.size 56 1 rv k (gs.map fun g => .pointer (some ⟨g, 0, none⟩))) := ⟨by rw [HLK.out] at hgo; exact hgo⟩
      have HGI := As.mk hgi
      have HRB : As (∀ b, rv.ownBlock = some b → w.heap.size ≤ b ∧ b < wr.heap.size) := ⟨fun b hb => by
        obtain ⟨_, _, ho, _⟩ := HSV.out
        exact ho.lt b hb⟩
      clear hgl hgo hgi
      go_upto_region 6 with (at_builtin; refine wpList_append_s rfl _ _ 57 rfl 56 1 (.pointer none) 8 Try.underlying57 infoSigPtr rfl (by decide) (by decide) rv w.heap.size k (gs.map fun g => .pointer (some ⟨g, 0, none⟩)) ⟨w2.heap.size, 0, none⟩ 1 [.pointer (some ⟨q, 0, none⟩)] rfl rfl ?k1 rfl ?k2 (by simp [Value.oneCell']) ?k4 ?k5 ?_)
      (case k1 => exact row_keep HGO.out ((Chg.refl _ _).alloc _))
      (case k2 => exact (Blk.new w2 _ [.pointer (some ⟨q, 0, none⟩)]).news)
      (case k4 => exact Nat.le_trans HC'.out.size (Nat.le_trans HC2.out.size (Chg.size ((Chg.refl NoB w2).alloc _))))
      (case k5 => omega)
      intro v2 w3 h2 h3 h5
      have hal := (Chg.refl NoB w2).alloc (.cells #[.pointer (some ⟨q, 0, none⟩)] 56)
      have HSV2 : As (MRow w3 w.heap.size v2 (l.take (k + 1))) := ⟨by
        rw [HTK.out]
        refine MRow.snoc (q := q) HGL.out (by rw [HLK.out]; exact row_keep HGO.out hal) (fun i g p a b => ?_) ⟨fun e => ?_, ?_, HBQ.out.chg hal (fun e => e)⟩ (by rw [HLK.out]; exact h2) h3 (h5.imp id (fun h => h.trans (congrArg some (Array.size_push _).symm)))
        · obtain ⟨x, y, z⟩ := HGI.out i g p a b
          exact ⟨x, y, z.chg hal (fun e => e)⟩
        · have := (HRB.out q e).2
          have := HQ.out
          omega
        · have := HC'.out.size
          have := HQ.out
          omega⟩
      have HC3 := As.mk (((HC'.out.trans HC2.out (fun _ _ e => e)).trans hal (fun _ _ e => e)).trans (S' := fun b => rv.ownBlock = some b) (grown_chg h3) (fun i hi e => absurd (HRB.out i e).1 (by omega)))
      clear h2 h3 h5 hal
      go_wp2_with fail
      go_roundw
      case rel => exact ⟨k + 1, _, rfl, by simp, by omega, HSV2, HC3⟩
      case measure => show n - ((k : Int) + 1).toNat < n - ((k : Int)).toNat; omega
    · have hz : ¬ ((k : Int) < (n : Int)) := by omega
      have hkn : k = n := by omega
      have HF : As (MRow wr w.heap.size rv l) := ⟨by have h := HSV.out; rwa [hkn, HN.out, List.take_length] at h⟩
      clear hkn
      go_wp2_with fail
      go_ret
      exact ⟨_, rfl, HC'.out, HF.out⟩
end Go.Proofs.Ytdcamebmbadmbaa
