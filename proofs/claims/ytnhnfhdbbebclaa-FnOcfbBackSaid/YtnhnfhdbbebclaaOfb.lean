/- Words for OpenPGP's feedback mode in memory. -/
import Derived.Test.YtnhnfhdbbebclaaCbcN
import Derived.Test.YtnhnfhdbbebclaaOfbP
import Derived.Deep.DeepCutAuto
import Derived.Deep.CutBlock
set_option linter.unusedVariables false
set_option linter.unusedSimpArgs false
namespace Go.Proofs.Ytnhnfhdbbebclaa
open Go.RowKit V
/-- A stream of this mode in block X (of the type T), its register in block F. -/
def Ofb (T : TypeId) (w : World) (X F base B n : Nat) (st : List Int × Nat) : Prop :=
  Blk w X T [cphV B, .slice (some ⟨F, 0, none⟩) n n, .int .i64 (st.2 : Int)] ∧ Own w base 5 .u8 (.slice (some ⟨F, 0, none⟩) n n) st.1 ∧ X ≠ F ∧ st.2 ≤ n ∧ Byt st.1
theorem Ofb.chg {T : TypeId} {w w' : World} {X F base B n : Nat} {st : List Int × Nat} {S : Nat → Prop} (h : Ofb T w X F base B n st) (hc : Chg S w w') (hX : ¬ S X) (hF : ¬ S F) : Ofb T w' X F base B n st :=
  ⟨h.1.chg hc hX, own_chg h.2.1 hc (fun b hb => by injection hb with hb; subst hb; exact hF), h.2.2⟩
theorem Ofb.ok {T : TypeId} {w : World} {X F base B n : Nat} {st : List Int × Nat} (h : Ofb T w X F base B n st) : OkS n st := ⟨(own_len h.2.1).symm, h.2.2.2.2, h.2.2.2.1⟩
end Go.Proofs.Ytnhnfhdbbebclaa
