/- A dash escaper in memory: its block, its blanks held back, its one byte, its buffered writer, its sink; each has a colour of its own, so that none lies in another one. -/
import Derived.Test.YtphnjfbaioblbaaDoorBufW3
import Derived.Test.YtphnjfbaioblbaaDoorDashP
set_option linter.unusedVariables false
set_option linter.unusedSimpArgs false
namespace Go.Proofs.YtphnjfbaioblbaaDoor
open Go.RowKit V
def dCells (bf gh by_ : Nat) (mp pt : Value) (beg fst : Bool) (v : Value) : List Value :=
  [.pointer (some ⟨bf, 0, none⟩), .slice none 0 0, .slice none 0 0, .iface 31 (.pointer (some ⟨gh, 0, none⟩)), .slice none 0 0, mp, .bool beg, .bool fst, v, .slice (some ⟨by_, 0, none⟩) 1 1, .slice none 0 0, pt]
/-- The colours behind a call that made blocks: the new ones get colour i. -/
def recol (col : Nat → Nat) (w : World) (i : Nat) : Nat → Nat := fun b => if w.heap.size ≤ b then i else col b
theorem recol_old {col : Nat → Nat} {w : World} {i b : Nat} (h : b < w.heap.size) : recol col w i b = col b := if_neg (by omega)
theorem recol_new {col : Nat → Nat} {w : World} {i b : Nat} (h : w.heap.size ≤ b) : recol col w i b = i := if_pos h
structure Dsc (base d bf bb g gh by_ : Nat) (mp pt : Value) (w : World) (v : Value) (n : Nat) (FB FH : Nat → Prop) (col : Nat → Nat) (L : Nat) (s : Dst) (x : Int) : Prop where
  blk : Blk w d 53 (dCells bf gh by_ mp pt s.beg s.fst v)
  ws : Own w base 5 .u8 v s.ws
  cw : ∀ b, v.ownBlock = some b → col b = 3
  byte : Own w base 5 .u8 (.slice (some ⟨by_, 0, none⟩) 1 1) [x]
  bw : Bw w base bf bb g FB n L
  cb : ∀ b, FB b → col b = 1
  snk : Snk w base gh FH s.out
  ch : ∀ b, FH b → col b = 2
  cd : col d = 4
  cy : col by_ = 5
  lo : ∀ b, col b ≠ 0 → base ≤ b
section
variable {base d bf bb g gh by_ : Nat} {mp pt : Value} {w w' : World} {v : Value} {n : Nat} {FB FH : Nat → Prop} {col : Nat → Nat} {L : Nat} {s : Dst} {x : Int}
theorem Dsc.hb (h : Dsc base d bf bb g gh by_ mp pt w v n FB FH col L s x) : base ≤ w.heap.size := Nat.le_trans (h.lo d (by rw [h.cd]; omega)) (Nat.le_of_lt h.blk.lt)
theorem Dsc.by_lt (h : Dsc base d bf bb g gh by_ mp pt w v n FB FH col L s x) : by_ < w.heap.size := (own_block_lt h.byte _ rfl).2
/-- A change that touches none of its colours. -/
theorem Dsc.chg {S : Nat → Prop} (h : Dsc base d bf bb g gh by_ mp pt w v n FB FH col L s x) (hc : Chg S w w') (hs : ∀ b, b < w.heap.size → col b ≠ 0 → ¬ S b) : Dsc base d bf bb g gh by_ mp pt w' v n FB FH col L s x where
  blk := h.blk.chg hc (hs _ h.blk.lt (by rw [h.cd]; omega))
  ws := own_chg h.ws hc (fun b e => hs b (own_block_lt h.ws b e).2 (by rw [h.cw b e]; omega))
  cw := h.cw
  byte := own_chg h.byte hc (fun b e => by injection e with e; subst e; exact hs _ h.by_lt (by rw [h.cy]; omega))
  bw := h.bw.chg hc (fun b e => hs b (h.bw.lt b e) (by rw [h.cb b e]; omega))
  cb := h.cb
  snk := h.snk.chg hc (fun b e => hs b (h.snk.lt b e) (by rw [h.ch b e]; omega))
  ch := h.ch
  cd := h.cd
  cy := h.cy
  lo := h.lo
theorem Dsc.keep (h : Dsc base d bf bb g gh by_ mp pt w v n FB FH col L s x) (hc : Chg NoB w w') : Dsc base d bf bb g gh by_ mp pt w' v n FB FH col L s x := h.chg hc (fun _ _ _ e => e)
theorem Dsc.lo' (h : Dsc base d bf bb g gh by_ mp pt w v n FB FH col L s x) (i : Nat) : ∀ b, recol col w i b ≠ 0 → base ≤ b := fun b e => by
  by_cases hb : w.heap.size ≤ b
  · exact Nat.le_trans h.hb hb
  · rw [recol_old (by omega)] at e; exact h.lo b e
/-- A call on the buffered writer. -/
theorem Dsc.toB {n' L' : Nat} {FB' : Nat → Prop} (h : Dsc base d bf bb g gh by_ mp pt w v n FB FH col L s x) (hb : Bw w' base bf bb g FB' n' L') (hc : Chg FB w w') (hg : Grew FB w FB') : Dsc base d bf bb g gh by_ mp pt w' v n' FB' FH (recol col w 1) L' s x where
  blk := h.blk.chg hc (fun e => by have := h.cb _ e; have := h.cd; omega)
  ws := own_chg h.ws hc (fun b e e' => by have := h.cb _ e'; have := h.cw b e; omega)
  cw := fun b e => by rw [recol_old (own_block_lt h.ws b e).2]; exact h.cw b e
  byte := own_chg h.byte hc (fun b e e' => by injection e with e; subst e; exact absurd (h.cy.symm.trans (h.cb _ e')) (by decide))
  bw := hb
  cb := fun b e => by
    rcases hg b e with h1 | h1
    · rw [recol_old (h.bw.lt b h1)]; exact h.cb b h1
    · exact recol_new h1
  snk := h.snk.chg hc (fun b e e' => by have := h.cb _ e'; have := h.ch b e; omega)
  ch := fun b e => by rw [recol_old (h.snk.lt b e)]; exact h.ch b e
  cd := by rw [recol_old h.blk.lt]; exact h.cd
  cy := by rw [recol_old h.by_lt]; exact h.cy
  lo := h.lo' 1
/-- A write to the sink. -/
theorem Dsc.toH {out' : List Int} {FH' : Nat → Prop} (h : Dsc base d bf bb g gh by_ mp pt w v n FB FH col L s x) (hb : Snk w' base gh FH' out') (hc : Chg FH w w') (hg : Grew FH w FH') : Dsc base d bf bb g gh by_ mp pt w' v n FB FH' (recol col w 2) L ⟨s.beg, s.fst, s.ws, out'⟩ x where
  blk := h.blk.chg hc (fun e => by have := h.ch _ e; have := h.cd; omega)
  ws := own_chg h.ws hc (fun b e e' => by have := h.ch _ e'; have := h.cw b e; omega)
  cw := fun b e => by rw [recol_old (own_block_lt h.ws b e).2]; exact h.cw b e
  byte := own_chg h.byte hc (fun b e e' => by injection e with e; subst e; exact absurd (h.cy.symm.trans (h.ch _ e')) (by decide))
  bw := h.bw.chg hc (fun b e e' => by have := h.ch _ e'; have := h.cb b e; omega)
  cb := fun b e => by rw [recol_old (h.bw.lt b e)]; exact h.cb b e
  snk := hb
  ch := fun b e => by
    rcases hg b e with h1 | h1
    · rw [recol_old (h.snk.lt b h1)]; exact h.ch b h1
    · exact recol_new h1
  cd := by rw [recol_old h.blk.lt]; exact h.cd
  cy := by rw [recol_old h.by_lt]; exact h.cy
  lo := h.lo' 2
/-- A store into its own block. -/
theorem Dsc.own_store (h : Dsc base d bf bb g gh by_ mp pt w v n FB FH col L s x) (i : Nat) (u v' : Value) (s' : Dst) (he : (dCells bf gh by_ mp pt s.beg s.fst v).set i u = dCells bf gh by_ mp pt s'.beg s'.fst v') (hw : Own (w.setCell ⟨d, i, none⟩ u) base 5 .u8 v' s'.ws) (hcw : ∀ b, v'.ownBlock = some b → col b = 3) (ho : s'.out = s.out) :
    Dsc base d bf bb g gh by_ mp pt (w.setCell ⟨d, i, none⟩ u) v' n FB FH col L s' x := by
  have hc := (Chg.refl (fun b => b = d) w).setCell (p := ⟨d, i, none⟩) u (fun _ => rfl)
  exact {
    blk := he ▸ h.blk.set_ i u
    ws := hw
    cw := hcw
    byte := own_chg h.byte hc (fun b e e' => by injection e with e; subst e; exact absurd (h.cy.symm.trans ((congrArg col e').trans h.cd)) (by decide))
    bw := h.bw.chg hc (fun b e e' => by have := h.cb _ e; have := h.cd; rw [e'] at *; omega)
    cb := h.cb
    snk := ho ▸ h.snk.chg hc (fun b e e' => by have := h.ch _ e; have := h.cd; rw [e'] at *; omega)
    ch := h.ch
    cd := h.cd
    cy := h.cy
    lo := h.lo }
theorem Dsc.ws_d (h : Dsc base d bf bb g gh by_ mp pt w v n FB FH col L s x) (i : Nat) (u : Value) : Own (w.setCell ⟨d, i, none⟩ u) base 5 .u8 v s.ws :=
  own_chg h.ws ((Chg.refl (fun b => b = d) w).setCell (p := ⟨d, i, none⟩) u (fun _ => rfl)) (fun b e e' => by have := h.cw b e; have := h.cd; rw [e'] at *; omega)
theorem Dsc.beg (h : Dsc base d bf bb g gh by_ mp pt w v n FB FH col L s x) (q : Bool) : Dsc base d bf bb g gh by_ mp pt (w.setCell ⟨d, 6, none⟩ (.bool q)) v n FB FH col L ⟨q, s.fst, s.ws, s.out⟩ x :=
  h.own_store 6 _ v ⟨q, s.fst, s.ws, s.out⟩ rfl (h.ws_d 6 _) h.cw rfl
theorem Dsc.fst (h : Dsc base d bf bb g gh by_ mp pt w v n FB FH col L s x) (q : Bool) : Dsc base d bf bb g gh by_ mp pt (w.setCell ⟨d, 7, none⟩ (.bool q)) v n FB FH col L ⟨s.beg, q, s.ws, s.out⟩ x :=
  h.own_store 7 _ v ⟨s.beg, q, s.ws, s.out⟩ rfl (h.ws_d 7 _) h.cw rfl
/-- The blanks dropped. -/
theorem Dsc.drop {A : Option Addr} {m c : Nat} (h : Dsc base d bf bb g gh by_ mp pt w (.slice A m c) n FB FH col L s x) : Dsc base d bf bb g gh by_ mp pt (w.setCell ⟨d, 8, none⟩ (.slice A 0 c)) (.slice A 0 c) n FB FH col L ⟨s.beg, s.fst, [], s.out⟩ x :=
  h.own_store 8 _ (.slice A 0 c) ⟨s.beg, s.fst, [], s.out⟩ rfl (own_take (h.ws_d 8 _) 0 (Nat.zero_le _)) (fun b e => h.cw b (by cases A with | none => simp [Value.ownBlock] at e | some a => exact e)) rfl
/-- The one byte laid. -/
theorem Dsc.lay (h : Dsc base d bf bb g gh by_ mp pt w v n FB FH col L s x) (y : Int) : Dsc base d bf bb g gh by_ mp pt (w.setCell ⟨by_, 0, none⟩ (.int .u8 y)) v n FB FH col L s y := by
  have hc := (Chg.refl (fun b => b = by_) w).setCell (p := ⟨by_, 0, none⟩) (.int .u8 y) (fun _ => rfl)
  exact {
    blk := h.blk.chg hc (fun e => by have := h.cy; have := h.cd; rw [e] at *; omega)
    ws := own_chg h.ws hc (fun b e e' => by have := h.cw b e; have := h.cy; rw [e'] at *; omega)
    cw := h.cw
    byte := own_set h.byte 0 y
    bw := h.bw.chg hc (fun b e e' => by have := h.cb _ e; have := h.cy; rw [e'] at *; omega)
    cb := h.cb
    snk := h.snk.chg hc (fun b e e' => by have := h.ch _ e; have := h.cy; rw [e'] at *; omega)
    ch := h.ch
    cd := h.cd
    cy := h.cy
    lo := h.lo }
/-- A blank held back: the row grown, then stored. -/
theorem Dsc.held {v' : Value} {ws' : List Int} (h : Dsc base d bf bb g gh by_ mp pt w v n FB FH col L s x) (ho : Own w' base 5 .u8 v' ws') (hg : w.grownBy w' v.ownBlock) (hv : v'.ownBlock = v.ownBlock ∨ v'.ownBlock = some w.heap.size) : Dsc base d bf bb g gh by_ mp pt (w'.setCell ⟨d, 8, none⟩ v') v' n FB FH (recol col w 3) L ⟨s.beg, s.fst, ws', s.out⟩ x := by
  have hc := grown_chg hg
  have h3 : ∀ b, v'.ownBlock = some b → recol col w 3 b = 3 := fun b e => by
    rcases hv with h1 | h1
    · rw [recol_old (own_block_lt h.ws b (h1 ▸ e)).2]; exact h.cw b (h1 ▸ e)
    · rw [h1] at e; injection e with e; exact recol_new (by omega)
  have h4 : recol col w 3 d = 4 := by rw [recol_old h.blk.lt]; exact h.cd
  have hc2 := (Chg.refl (fun b => b = d) w').setCell (p := ⟨d, 8, none⟩) v' (fun _ => rfl)
  exact {
    blk := (h.blk.chg hc (fun e => by have := h.cw _ e; have := h.cd; omega)).set_ 8 v'
    ws := own_chg ho hc2 (fun b e e' => by have := h3 b e; rw [e'] at *; omega)
    cw := h3
    byte := own_chg (own_chg h.byte hc (fun b e e' => by injection e with e; subst e; exact absurd (h.cy.symm.trans (h.cw _ e')) (by decide))) hc2 (fun b e e' => by injection e with e; subst e; exact absurd (h.cy.symm.trans ((congrArg col e').trans h.cd)) (by decide))
    bw := (h.bw.chg hc (fun b e e' => by have := h.cb _ e; have := h.cw _ e'; omega)).chg hc2 (fun b e e' => by have := h.cb _ e; have := h.cd; rw [e'] at *; omega)
    cb := fun b e => by rw [recol_old (h.bw.lt b e)]; exact h.cb b e
    snk := (h.snk.chg hc (fun b e e' => by have := h.ch _ e; have := h.cw _ e'; omega)).chg hc2 (fun b e e' => by have := h.ch _ e; have := h.cd; rw [e'] at *; omega)
    ch := fun b e => by rw [recol_old (h.snk.lt b e)]; exact h.ch b e
    cd := h4
    cy := by rw [recol_old h.by_lt]; exact h.cy
    lo := h.lo' 3 }
end
end Go.Proofs.YtphnjfbaioblbaaDoor
