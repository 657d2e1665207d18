/- A dash escaper in memory seen from an older world: what its steps change lies in its own colours. -/
import Derived.Test.YtphnjfbaioblbaaDoorDsc
set_option linter.unusedVariables false
set_option linter.unusedSimpArgs false
namespace Go.Proofs.YtphnjfbaioblbaaDoor
open Go.RowKit V
theorem Dsc.le {base d bf bb g gh by_ : Nat} {mp pt : Value} {w : World} {v : Value} {n : Nat} {FB FH : Nat → Prop} {col : Nat → Nat} {L L' : Nat} {s : Dst} {x : Int} (h : Dsc base d bf bb g gh by_ mp pt w v n FB FH col L s x) (hl : L ≤ L') : Dsc base d bf bb g gh by_ mp pt w v n FB FH col L' s x where
  blk := h.blk
  ws := h.ws
  cw := h.cw
  byte := h.byte
  bw := h.bw.le hl
  cb := h.cb
  snk := h.snk
  ch := h.ch
  cd := h.cd
  cy := h.cy
  lo := h.lo
/-- New blocks have no colour. -/
theorem Dsc.fresh {base d bf bb g gh by_ : Nat} {mp pt : Value} {w : World} {v : Value} {n : Nat} {FB FH : Nat → Prop} {col : Nat → Nat} {L : Nat} {s : Dst} {x : Int} (h : Dsc base d bf bb g gh by_ mp pt w v n FB FH col L s x) : Dsc base d bf bb g gh by_ mp pt w v n FB FH (recol col w 0) L s x where
  blk := h.blk
  ws := h.ws
  cw := fun b e => by rw [recol_old (own_block_lt h.ws b e).2]; exact h.cw b e
  byte := h.byte
  bw := h.bw
  cb := fun b e => by rw [recol_old (h.bw.lt b e)]; exact h.cb b e
  snk := h.snk
  ch := fun b e => by rw [recol_old (h.snk.lt b e)]; exact h.ch b e
  cd := by rw [recol_old h.blk.lt]; exact h.cd
  cy := by rw [recol_old h.by_lt]; exact h.cy
  lo := h.lo' 0
structure Dq (w0 : World) (col0 : Nat → Nat) (base d bf bb g gh by_ : Nat) (mp pt : Value) (w : World) (v : Value) (n : Nat) (FB FH : Nat → Prop) (col : Nat → Nat) (L : Nat) (s : Dst) (x : Int) : Prop where
  ds : Dsc base d bf bb g gh by_ mp pt w v n FB FH col L s x
  chg : Chg (fun b => col0 b ≠ 0) w0 w
  old : ∀ b, b < w0.heap.size → col b = col0 b
section
variable {w0 : World} {col0 : Nat → Nat} {base d bf bb g gh by_ : Nat} {mp pt : Value} {w w' : World} {v : Value} {n : Nat} {FB FH : Nat → Prop} {col : Nat → Nat} {L : Nat} {s : Dst} {x : Int}
theorem Dq.le {L' : Nat} (h : Dq w0 col0 base d bf bb g gh by_ mp pt w v n FB FH col L s x) (hl : L ≤ L') : Dq w0 col0 base d bf bb g gh by_ mp pt w v n FB FH col L' s x := ⟨h.ds.le hl, h.chg, h.old⟩
theorem Dq.keep (h : Dq w0 col0 base d bf bb g gh by_ mp pt w v n FB FH col L s x) (hc : Chg NoB w w') : Dq w0 col0 base d bf bb g gh by_ mp pt w' v n FB FH col L s x := ⟨h.ds.keep hc, h.chg.trans hc (fun _ _ e => e.elim), h.old⟩
theorem Dq.old_recol (h : Dq w0 col0 base d bf bb g gh by_ mp pt w v n FB FH col L s x) (i : Nat) : ∀ b, b < w0.heap.size → recol col w i b = col0 b := fun b hb => by rw [recol_old (Nat.lt_of_lt_of_le hb h.chg.size)]; exact h.old b hb
theorem Dq.toB {n' L' : Nat} {FB' : Nat → Prop} (h : Dq w0 col0 base d bf bb g gh by_ mp pt w v n FB FH col L s x) (hb : Bw w' base bf bb g FB' n' L') (hc : Chg FB w w') (hg : Grew FB w FB') : Dq w0 col0 base d bf bb g gh by_ mp pt w' v n' FB' FH (recol col w 1) L' s x :=
  ⟨h.ds.toB hb hc hg, h.chg.trans hc (fun i hi e => by rw [← h.old i hi, h.ds.cb i e]; decide), h.old_recol 1⟩
theorem Dq.toH {out' : List Int} {FH' : Nat → Prop} (h : Dq w0 col0 base d bf bb g gh by_ mp pt w v n FB FH col L s x) (hb : Snk w' base gh FH' out') (hc : Chg FH w w') (hg : Grew FH w FH') : Dq w0 col0 base d bf bb g gh by_ mp pt w' v n FB FH' (recol col w 2) L ⟨s.beg, s.fst, s.ws, out'⟩ x :=
  ⟨h.ds.toH hb hc hg, h.chg.trans hc (fun i hi e => by rw [← h.old i hi, h.ds.ch i e]; decide), h.old_recol 2⟩
theorem Dq.own (h : Dq w0 col0 base d bf bb g gh by_ mp pt w v n FB FH col L s x) (i : Nat) (u : Value) : Chg (fun b => col0 b ≠ 0) w0 (w.setCell ⟨d, i, none⟩ u) :=
  h.chg.setCell (p := ⟨d, i, none⟩) u (fun hi => by rw [← h.old d hi, h.ds.cd]; decide)
theorem Dq.beg (h : Dq w0 col0 base d bf bb g gh by_ mp pt w v n FB FH col L s x) (q : Bool) : Dq w0 col0 base d bf bb g gh by_ mp pt (w.setCell ⟨d, 6, none⟩ (.bool q)) v n FB FH col L ⟨q, s.fst, s.ws, s.out⟩ x := ⟨h.ds.beg q, h.own 6 _, h.old⟩
theorem Dq.fst (h : Dq w0 col0 base d bf bb g gh by_ mp pt w v n FB FH col L s x) (q : Bool) : Dq w0 col0 base d bf bb g gh by_ mp pt (w.setCell ⟨d, 7, none⟩ (.bool q)) v n FB FH col L ⟨s.beg, q, s.ws, s.out⟩ x := ⟨h.ds.fst q, h.own 7 _, h.old⟩
theorem Dq.drop {A : Option Addr} {m c : Nat} (h : Dq w0 col0 base d bf bb g gh by_ mp pt w (.slice A m c) n FB FH col L s x) : Dq w0 col0 base d bf bb g gh by_ mp pt (w.setCell ⟨d, 8, none⟩ (.slice A 0 c)) (.slice A 0 c) n FB FH col L ⟨s.beg, s.fst, [], s.out⟩ x := ⟨h.ds.drop, h.own 8 _, h.old⟩
theorem Dq.lay (h : Dq w0 col0 base d bf bb g gh by_ mp pt w v n FB FH col L s x) (y : Int) : Dq w0 col0 base d bf bb g gh by_ mp pt (w.setCell ⟨by_, 0, none⟩ (.int .u8 y)) v n FB FH col L s y :=
  ⟨h.ds.lay y, h.chg.setCell (p := ⟨by_, 0, none⟩) _ (fun hi => by rw [← h.old by_ hi, h.ds.cy]; decide), h.old⟩
theorem Dq.held {v' : Value} {ws' : List Int} (h : Dq w0 col0 base d bf bb g gh by_ mp pt w v n FB FH col L s x) (ho : Own w' base 5 .u8 v' ws') (hg : w.grownBy w' v.ownBlock) (hv : v'.ownBlock = v.ownBlock ∨ v'.ownBlock = some w.heap.size) : Dq w0 col0 base d bf bb g gh by_ mp pt (w'.setCell ⟨d, 8, none⟩ v') v' n FB FH (recol col w 3) L ⟨s.beg, s.fst, ws', s.out⟩ x :=
  ⟨h.ds.held ho hg hv, (h.chg.trans (grown_chg hg) (fun i hi e => by rw [← h.old i hi, h.ds.cw i e]; decide)).setCell (p := ⟨d, 8, none⟩) _ (fun hi => by rw [← h.old d hi, h.ds.cd]; decide), h.old_recol 3⟩
/-- The cells of the escaper. -/
theorem Dq.cells (h : Dq w0 col0 base d bf bb g gh by_ mp pt w v n FB FH col L s x) :
    w.cell? ⟨d, 0, none⟩ = some (.pointer (some ⟨bf, 0, none⟩)) ∧ w.cell? ⟨d, 3, none⟩ = some (.iface 31 (.pointer (some ⟨gh, 0, none⟩))) ∧ w.cell? ⟨d, 6, none⟩ = some (.bool s.beg) ∧ w.cell? ⟨d, 7, none⟩ = some (.bool s.fst) ∧ w.cell? ⟨d, 8, none⟩ = some v ∧ w.cell? ⟨d, 9, none⟩ = some (.slice (some ⟨by_, 0, none⟩) 1 1) ∧ w.frozen? ⟨d, 6, none⟩ = false ∧ w.frozen? ⟨d, 7, none⟩ = false ∧ w.frozen? ⟨d, 8, none⟩ = false ∧ w.cell? ⟨by_, 0, none⟩ = some (.int .u8 x) ∧ w.frozen? ⟨by_, 0, none⟩ = false ∧ ¬ by_ = d ∧ ¬ d = by_ ∧ d < w.heap.size ∧ base ≤ w.heap.size :=
  have hb := own_at h.ds.byte 0 (Nat.zero_lt_one)
  ⟨h.ds.blk.cell 0, h.ds.blk.cell 3, h.ds.blk.cell 6, h.ds.blk.cell 7, h.ds.blk.cell 8, h.ds.blk.cell 9, h.ds.blk.frozen 6, h.ds.blk.frozen 7, h.ds.blk.frozen 8, hb.1, hb.2, (fun e => by have := h.ds.cd; have := h.ds.cy; rw [e] at *; omega), (fun e => by have := h.ds.cd; have := h.ds.cy; rw [e] at *; omega), h.ds.blk.lt, h.ds.hb⟩
end
/-- The state behind the look at the line's beginning. -/
def dashMid (s : Dst) : Dst := ⟨s.beg, if s.beg then false else s.fst, s.ws, if s.beg && !s.fst then s.out ++ [13, 10] else s.out⟩
def dashTail (s : Dst) (b : Int) : Dst :=
  if blankB b then ⟨false, s.fst, s.ws ++ [b], s.out⟩
  else if s.beg then (if b = 10 then ⟨true, s.fst, s.ws, s.out⟩ else ⟨false, s.fst, s.ws, s.out ++ [b]⟩)
  else if b = 10 then ⟨true, s.fst, [], s.out⟩ else ⟨false, s.fst, [], s.out ++ s.ws ++ [b]⟩
theorem dash_mid (s : Dst) (b : Int) : dashStep s b = dashTail (dashMid s) b := rfl
end Go.Proofs.YtphnjfbaioblbaaDoor
