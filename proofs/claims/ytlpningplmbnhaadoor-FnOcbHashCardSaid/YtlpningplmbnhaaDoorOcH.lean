/- The contract of (*ocb).hash. -/
import Derived.Test.YtlpningplmbnhaaDoorOcE
import Derived.Test.YtlpningplmbnhaaDoorOcA
set_option linter.unusedVariables false
set_option linter.unusedSimpArgs false
namespace Go.Proofs.YtlpningplmbnhaaDoor
open Go.RowKit V
theorem Oc.mono {K K' : Nat → Prop} {w : World} {base OB B gA : Nat} {vD : Value} {l : List (List Int)} (h : Oc K w base OB B gA vD l) (hk : ∀ b, b < w.heap.size → K b → K' b) : Oc K' w base OB B gA vD l := by
  obtain ⟨v, h1, h2, h3⟩ := h
  exact ⟨v, h1, h2.mono hk, fun b e => hk b (h2.lt b e).2 (h3 b e)⟩
/-- What stands in the loop: the text's row, the sum, the offset, the cipher, a mask, the table. -/
structure Hst (K : Nat → Prop) (w0 w : World) (base OB B gA lo hi gT gS gO n : Nat) (perm sub mask zs sl ol : List Int) : Prop where
  ot : Own w base 5 .u8 (.slice (some ⟨gT, 0, none⟩) n n) zs
  os : Own w base 5 .u8 (.slice (some ⟨gS, 0, none⟩) 16 16) sl
  oo : Own w base 5 .u8 (.slice (some ⟨gO, 0, none⟩) 16 16) ol
  cp : Cph w lo hi B perm sub mask
  ra : Rb w (some ⟨gA, 0, none⟩) (lAstL perm sub mask)
  tb : Tab w
  ch : Chg (fun b => OcS K OB b ∨ b = gT ∨ b = gS ∨ b = gO) w0 w
/-- What lies apart from what. -/
structure Hap (K : Nat → Prop) (OB gA lo hi gT gS gO : Nat) : Prop where
  ko : ¬ K OB
  ka : ¬ K gA
  kc : ∀ b, lo ≤ b → b < hi → ¬ K b
  kt : ¬ K 1
  kT : ¬ K gT
  kS : ¬ K gS
  kO : ¬ K gO
  nts : gT ≠ gS
  nto : gT ≠ gO
  nso : gS ≠ gO
  oT : OB < gT
  oS : OB < gS
  oO : OB < gO
  aT : gA < gT
  aS : gA < gS
  aO : gA < gO
  cT : hi ≤ gT
  cS : hi ≤ gS
  cO : hi ≤ gO
  oc : hi ≤ OB
  ao : gA ≠ OB
  tO : 1 < OB
/-- The table's block is none of these. -/
theorem Hap.tab {K : Nat → Prop} {OB gA lo hi gT gS gO : Nat} (h : Hap K OB gA lo hi gT gS gO) : 1 ≠ OB ∧ 1 ≠ gT ∧ 1 ≠ gS ∧ 1 ≠ gO := by
  have h1 := h.tO; have h2 := h.oT; have h3 := h.oS; have h4 := h.oO
  omega
theorem own_apart {S : Nat → Prop} {w w' : World} {base g n c : Nat} {e : TypeId} {xs : List Int} (h : Own w base e .u8 (.slice (some ⟨g, 0, none⟩) n c) xs) (hc : Chg S w w') (hg : ¬ S g) : Own w' base e .u8 (.slice (some ⟨g, 0, none⟩) n c) xs :=
  own_chg h hc (fun b e k => hg (by injection e with e; have e2 : g = b := e; rw [e2]; exact k))
section
variable {K : Nat → Prop} {w0 w w' : World} {base OB B gA lo hi gT gS gO n : Nat} {perm sub mask zs sl ol xs : List Int}
/-- A call that turns blocks of S, none of the loop's own. -/
theorem Hst.masks (h : Hst K w0 w base OB B gA lo hi gT gS gO n perm sub mask zs sl ol) (a : Hap K OB gA lo hi gT gS gO) (hc : Chg (OcS K OB) w w') : Hst K w0 w' base OB B gA lo hi gT gS gO n perm sub mask zs sl ol where
  ot := own_apart h.ot hc (fun k => by rcases k with k | k; exact absurd k (by have := a.oT; omega); exact a.kT k)
  os := own_apart h.os hc (fun k => by rcases k with k | k; exact absurd k (by have := a.oS; omega); exact a.kS k)
  oo := own_apart h.oo hc (fun k => by rcases k with k | k; exact absurd k (by have := a.oO; omega); exact a.kO k)
  cp := h.cp.chg hc (fun b h1 h2 k => by rcases k with k | k; exact absurd k (by have := a.oc; omega); exact a.kc b h1 h2 k)
  ra := h.ra.chg hc (fun ad e _ k => by injection e with e; subst e; rcases k with k | k; exact absurd k a.ao; exact a.ka k)
  tb := h.tb.chg hc (fun k => by rcases k with k | k; exact absurd k a.tab.1; exact a.kt k)
  ch := h.ch.trans hc (fun b _ e => .inl e)
theorem Hst.setO (h : Hst K w0 w base OB B gA lo hi gT gS gO n perm sub mask zs sl ol) (a : Hap K OB gA lo hi gT gS gO) (ho : Own w' base 5 .u8 (.slice (some ⟨gO, 0, none⟩) 16 16) xs) (hc : Chg (fun b => b = gO) w w') : Hst K w0 w' base OB B gA lo hi gT gS gO n perm sub mask zs sl xs where
  ot := own_apart h.ot hc a.nto
  os := own_apart h.os hc a.nso
  oo := ho
  cp := h.cp.chg hc (fun b h1 h2 k => by have := a.cO; omega)
  ra := h.ra.chg hc (fun ad e _ k => by injection e with e; subst e; have k2 : gA = gO := k; have := a.aO; omega)
  tb := h.tb.chg hc a.tab.2.2.2
  ch := h.ch.trans hc (fun b _ e => .inr (.inr (.inr e)))
theorem Hst.setS (h : Hst K w0 w base OB B gA lo hi gT gS gO n perm sub mask zs sl ol) (a : Hap K OB gA lo hi gT gS gO) (ho : Own w' base 5 .u8 (.slice (some ⟨gS, 0, none⟩) 16 16) xs) (hc : Chg (fun b => b = gS) w w') : Hst K w0 w' base OB B gA lo hi gT gS gO n perm sub mask zs xs ol where
  ot := own_apart h.ot hc a.nts
  os := ho
  oo := own_apart h.oo hc (fun e => a.nso e.symm)
  cp := h.cp.chg hc (fun b h1 h2 k => by have := a.cS; omega)
  ra := h.ra.chg hc (fun ad e _ k => by injection e with e; subst e; have k2 : gA = gS := k; have := a.aS; omega)
  tb := h.tb.chg hc a.tab.2.2.1
  ch := h.ch.trans hc (fun b _ e => .inr (.inr (.inl e)))
theorem Hst.setT (h : Hst K w0 w base OB B gA lo hi gT gS gO n perm sub mask zs sl ol) (a : Hap K OB gA lo hi gT gS gO) (ho : Own w' base 5 .u8 (.slice (some ⟨gT, 0, none⟩) n n) xs) (hc : Chg (fun b => b = gT) w w') : Hst K w0 w' base OB B gA lo hi gT gS gO n perm sub mask xs sl ol where
  ot := ho
  os := own_apart h.os hc (fun e => a.nts e.symm)
  oo := own_apart h.oo hc (fun e => a.nto e.symm)
  cp := h.cp.chg hc (fun b h1 h2 k => by have := a.cT; omega)
  ra := h.ra.chg hc (fun ad e _ k => by injection e with e; subst e; have k2 : gA = gT := k; have := a.aT; omega)
  tb := h.tb.chg hc a.tab.2.1
  ch := h.ch.trans hc (fun b _ e => .inr (.inl e))
theorem Hst.keep (h : Hst K w0 w base OB B gA lo hi gT gS gO n perm sub mask zs sl ol) (hc : Chg NoB w w') : Hst K w0 w' base OB B gA lo hi gT gS gO n perm sub mask zs sl ol where
  ot := own_keep h.ot hc
  os := own_keep h.os hc
  oo := own_keep h.oo hc
  cp := h.cp.keep hc
  ra := h.ra.keep hc
  tb := h.tb.keep hc
  ch := h.ch.trans hc (fun b _ e => e.elim)
/-- The masks stay where a row of the loop's own is turned. -/
theorem Oc.row {vD : Value} {bs g : Nat} {l : List (List Int)} (h : Oc K w bs OB B gA vD l) (hc : Chg (fun b => b = g) w w') (ho : OB ≠ g) (hk : ¬ K g) : Oc K w' bs OB B gA vD l :=
  h.chg hc ho (fun b _ k e => hk (by rw [← e]; exact k))
end
end Go.Proofs.YtlpningplmbnhaaDoor
