/- The stream of sums that a passphrase becomes, in plain words. -/
import Derived.Test.YtdofkokeebgigaaDoorDig
set_option linter.unusedVariables false
set_option linter.unusedSimpArgs false
namespace Go.Proofs.YtdofkokeebgigaaDoor
open Go.RowKit V
/-- What the hash makes of so many zeros and a text. -/
def sumOf (sub : List Int) (n : Nat) (mask text : List Int) (i : Nat) : List Int := (dmix sub n (mask, 0) (List.replicate i 0 ++ text)).1
def strm (sub : List Int) (n : Nat) (mask text : List Int) : Nat → List Int
  | 0 => []
  | k + 1 => strm sub n mask text k ++ sumOf sub n mask text k
/-- So many bytes of it. -/
def stretch (sub : List Int) (n : Nat) (mask text : List Int) (size : Nat) : List Int := (strm sub n mask text size).take size
/-- The row after k rounds. -/
def outAt (sub : List Int) (n : Nat) (mask text : List Int) (size k : Nat) : List Int := (strm sub n mask text k).take size ++ List.replicate (size - k * n) 0
section
variable {sub mask text : List Int} {n size : Nat}
theorem sumOf_length (hs : Byt sub) (hm : Byt mask) (hl : mask.length = n) (hn : 1 ≤ n) (i : Nat) : (sumOf sub n mask text i).length = n :=
  (okst_mix hs hn _ (mask, 0) ⟨hl, hm, by omega⟩).1
theorem strm_length (hs : Byt sub) (hm : Byt mask) (hl : mask.length = n) (hn : 1 ≤ n) : ∀ k, (strm sub n mask text k).length = k * n
  | 0 => by simp [strm]
  | k + 1 => by rw [strm, List.length_append, strm_length hs hm hl hn k, sumOf_length hs hm hl hn, Nat.add_mul]; omega
theorem outAt_zero : outAt sub n mask text size 0 = List.replicate size 0 := by simp [outAt, strm]
theorem outAt_length (hs : Byt sub) (hm : Byt mask) (hl : mask.length = n) (hn : 1 ≤ n) (k : Nat) : (outAt sub n mask text size k).length = size := by
  unfold outAt
  rw [List.length_append, List.length_take, strm_length hs hm hl hn, List.length_replicate]
  omega
theorem outAt_step (hs : Byt sub) (hm : Byt mask) (hl : mask.length = n) (hn : 1 ≤ n) {k : Nat} (hk : k * n < size) :
    splice (outAt sub n mask text size k) (k * n) ((sumOf sub n mask text k).take (size - k * n)) = outAt sub n mask text size (k + 1) := by
  have h1 := strm_length (text := text) hs hm hl hn k
  have h2 := sumOf_length (text := text) hs hm hl hn k
  have e1 : (strm sub n mask text k).take size = strm sub n mask text k := List.take_of_length_le (by omega)
  have e2 : (strm sub n mask text (k + 1)).take size = strm sub n mask text k ++ (sumOf sub n mask text k).take (size - k * n) := by
    rw [strm, List.take_append, e1, h1]
  unfold outAt
  rw [e1, e2]
  unfold splice
  rw [List.take_append_of_le_length (by omega), List.take_of_length_le (by omega), List.drop_append, List.drop_of_length_le (by omega), List.nil_append, List.drop_replicate, List.length_take, h1, h2]
  have e3 : ∀ z, z = size - (k + 1) * n → List.replicate (size - k * n - (k * n + min (size - k * n) n - k * n)) (0 : Int) = List.replicate z 0 := fun z hz => by
    congr 1
    rw [hz, Nat.add_mul]
    omega
  rw [e3 _ rfl]
  simp [List.append_assoc]
theorem strm_prefix (k : Nat) : ∀ m, ∃ r, strm sub n mask text (k + m) = strm sub n mask text k ++ r
  | 0 => ⟨[], by simp⟩
  | m + 1 => by
    obtain ⟨r, hr⟩ := strm_prefix k m
    exact ⟨r ++ sumOf sub n mask text (k + m), by rw [← Nat.add_assoc, strm, hr, List.append_assoc]⟩
theorem strm_take (hs : Byt sub) (hm : Byt mask) (hl : mask.length = n) (hn : 1 ≤ n) {k j : Nat} (hk : size ≤ k * n) (hj : size ≤ j * n) : (strm sub n mask text k).take size = (strm sub n mask text j).take size := by
  have key : ∀ a b, a ≤ b → size ≤ a * n → (strm sub n mask text b).take size = (strm sub n mask text a).take size := fun a b hab ha => by
    obtain ⟨r, hr⟩ := strm_prefix (sub := sub) (n := n) (mask := mask) (text := text) a (b - a)
    rw [show a + (b - a) = b from by omega] at hr
    rw [hr, List.take_append_of_le_length (by rw [strm_length hs hm hl hn]; exact ha)]
  rcases Nat.le_total k j with h | h
  · exact (key k j h hk).symm
  · exact key j k h hj
theorem outAt_end (hs : Byt sub) (hm : Byt mask) (hl : mask.length = n) (hn : 1 ≤ n) {k : Nat} (hk : size ≤ k * n) : outAt sub n mask text size k = stretch sub n mask text size := by
  unfold outAt stretch
  rw [show size - k * n = 0 from by omega, List.replicate_zero, List.append_nil]
  exact strm_take hs hm hl hn hk (Nat.le_mul_of_pos_right _ (by omega))
end
end Go.Proofs.YtdofkokeebgigaaDoor
