/- The contracts of a bytes.Buffer's Write and Bytes, in my words. -/
import Derived.Test.YtdofkokeebgigaaDoorShelf
import Derived.Test.YtdofkokeebgigaaDoorRow
set_option linter.unusedVariables false
namespace Go.Proofs.YtdofkokeebgigaaDoor
open Go.RowKit V
/-- A buffer of the call's own at b holds xs. -/
def Bf (w : World) (B b : Nat) (xs : List Int) : Prop := Lib.IsBuffer 71 5 B b (nums .u8 xs) w
theorem Bf.new (w : World) : Bf (w.alloc (.cells #[.slice none 0 0, .int .i64 0, .int .i8 0] 71)) w.heap.size w.heap.size [] := Lib.fresh_isBuffer _ _ w
theorem Bf.chg {w w' : World} {S : Nat → Prop} {B b : Nat} {xs : List Int} (h : Bf w B b xs) (hc : Chg S w w') (hs : ∀ k, B ≤ k → k < w.heap.size → ¬ S k) : Bf w' B b xs := by
  obtain ⟨hB, v, lr, hb, ho, hne⟩ := h
  have hlt : b < w.heap.size := (Array.getElem?_eq_some_iff.1 hb).1
  have ho' : Own w B 5 .u8 v xs := by rw [nums_length] at ho; exact ho
  have h2 := own_chg ho' hc (fun k hk => hs k (own_block_lt ho' k hk).1 (own_block_lt ho' k hk).2)
  exact ⟨hB, v, lr, (hc.block b hlt (hs b hB hlt)).trans hb, by rw [nums_length]; exact h2, hne⟩
theorem Bf.lt {w : World} {B b : Nat} {xs : List Int} (h : Bf w B b xs) : B ≤ b ∧ b < w.heap.size := ⟨h.1, Lib.IsBuffer.lt h⟩
theorem bufWrite_any (B b : Nat) (xs ys : List Int) (A : Option Addr) (n c : Nat) (w : World) (hb : Bf w B b xs) (hB : B ≤ w.heap.size) (hn : n = ys.length) (hp : 1 ≤ n) (ry : Rf (fun k => k ≠ b) w A ys) (hl : xs.length + n ≤ 1048576) :
    Calls Tryd.prog 19 #[.pointer (some ⟨b, 0, none⟩), .slice A n c] w fun e w' => e = .returned (.tuple #[.int .i64 n, .nilIface]) ∧ Bf w' B b (xs ++ ys) ∧ Chg (fun k => B ≤ k) w w' := by
  obtain ⟨ad, rfl, _⟩ := ry.1.2 (by omega)
  refine (Tryd.Buffer_Write_any B b (nums .u8 xs) (nums .u8 ys) ad n c w hb hB (nums_one _ _) (by rw [nums_length]; exact hn.symm) (ry.2 ad rfl (by omega)) (ry.1.news rfl) (nums_one _ _) (by rw [nums_length]; omega)).mono fun e w' ⟨he, h1, h2, _⟩ => ⟨he, ?_, ⟨h2.os, h2.tape, h2.output, h2.size, fun k hk hs => h2.block k (by omega)⟩⟩
  unfold Bf
  rw [nums_append]
  exact h1
theorem bufBytes_any (B b : Nat) (xs : List Int) (w : World) (hb : Bf w B b xs) :
    Calls Tryd.prog 20 #[.pointer (some ⟨b, 0, none⟩)] w fun e w' => ∃ v, e = .returned v ∧ Own w' B 5 .u8 v xs ∧ ∃ n, w' = w.drewN n :=
  (Tryd.Buffer_Bytes B b (nums .u8 xs) w hb).mono fun e w' ⟨v, he, ho, hn⟩ => ⟨v, he, by rw [nums_length] at ho; exact ho, hn⟩
end Go.Proofs.YtdofkokeebgigaaDoor
