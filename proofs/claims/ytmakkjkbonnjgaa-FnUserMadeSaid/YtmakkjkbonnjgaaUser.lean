/- The contracts of FnUserMade: which bytes a part of a user id may hold. -/
import Derived.Test.YtmakkjkbonnjgaaProg
import Derived.Test.YtmakkjkbonnjgaaV2
import Derived.Laws.RangeString
import Derived.Laws.RangeAny
set_option linter.unusedVariables false
set_option linter.unusedSimpArgs false
namespace Go.Proofs.Ytmakkjkbonnjgaa
open Go.RowKit V

def badc (b : Nat) : Prop := b = 40 ∨ b = 41 ∨ b = 60 ∨ b = 62 ∨ b = 0
/-- The first n bytes are none of the five. -/
def fineTo (s : ByteArray) (n : Nat) : Prop := ∀ k (h : k < s.size), k < n → ¬ badc (s[k]'h).toNat
def fine (s : ByteArray) : Prop := fineTo s s.size
theorem badc_lt {b : Nat} (h : badc b) : b < 128 := by unfold badc at h; omega
theorem decode_skip (s : ByteArray) (pos : Nat) (h : pos < s.size) (ha : 128 ≤ (s[pos]'h).toNat) (k : Nat) (hk : k < s.size) (h1 : pos ≤ k) (h2 : k < pos + (Utf8.decode s pos).2) : 128 ≤ (s[k]'hk).toNat := by
  have hg : ∀ j (hj : pos + j < s.size), (s.get! (pos + j)) = s[pos + j]'hj := fun j hj => by
    simp [ByteArray.get!, getElem!_pos, hj]
    rfl
  have hn : ¬ (s.get! (pos + 0)).toNat < 128 := by rw [hg 0 (by omega)]; simpa using ha
  obtain ⟨j, rfl⟩ : ∃ j, k = pos + j := ⟨k - pos, by omega⟩
  rw [← hg j hk]
  simp only [Utf8.decode, hn, if_false] at h2
  rcases j with _ | _ | _ | _ | j
  · omega
  all_goals
    revert h2
    repeat' split
  all_goals (intro h2; simp_all; try omega)
theorem fine_step (s : ByteArray) (pos : Nat) (h : pos < s.size) (hf : fineTo s pos) (hb : ¬ badc (Utf8.decode s pos).1) : fineTo s (pos + (Utf8.decode s pos).2) := by
  intro k hk hkn
  by_cases h1 : k < pos
  · exact hf k hk h1
  · by_cases ha : (s[pos]'h).toNat < 128
    · rw [decode_ascii s pos h ha] at hb hkn
      obtain rfl : k = pos := by omega
      exact hb
    · exact fun e => by have := badc_lt e; have := decode_skip s pos h (by omega) k hk (by omega) hkn; omega
theorem fine_bad (s : ByteArray) (pos : Nat) (h : pos < s.size) (hb : badc (Utf8.decode s pos).1) : ¬ fine s := by
  intro hf
  by_cases ha : (s[pos]'h).toNat < 128
  · rw [decode_ascii s pos h ha] at hb
    exact hf pos h h hb
  · have := (decode_high s pos h (by omega)).1
    have := badc_lt hb
    omega
theorem width_pos (s : ByteArray) (pos : Nat) (h : pos < s.size) : 1 ≤ (Utf8.decode s pos).2 := by
  by_cases ha : (s[pos]'h).toNat < 128
  · rw [decode_ascii s pos h ha]; exact Nat.le_refl _
  · exact (decode_high s pos h (by omega)).2

set_option maxRecDepth 100000 in
set_option maxHeartbeats 1000000 in
theorem hasInvalid_any (s : ByteArray) (w : World) :
    Calls Try.prog 67 #[.string s] w fun e w' => (∃ b, e = .returned (.bool b) ∧ (b = false ↔ fine s)) ∧ Chg NoB w w' := by
  go_enter Try.func67, Try.ntmps67
  go_wp2
  go_loopw [2] (fun i w' => ∃ pos : Nat, w' = w.iter s pos ∧ i = .bool false ∧ As (fineTo s pos)) (fun _ w' => s.size - w'.iterPos w.heap.size)
  case atStart => exact ⟨0, rfl, rfl, ⟨fun k hk h => absurd h (by omega)⟩⟩
  case round =>
    obtain ⟨pos, rfl, rfl, HF⟩ := hrel
    by_cases hp : pos < s.size
    · have hnx : ∀ ty, (Instr.next (.pointer (some ⟨w.heap.size, 0, none⟩)) true ty).run Try.prog (w.iter s pos) = _ := fun ty => run_next_any w s pos ty hp
      have hwd := width_pos s pos hp
      have HS := As.mk (fine_step s pos hp HF.out)
      have HB := As.mk (fine_bad s pos hp)
      generalize (Utf8.decode s pos).1 = r at *
      generalize (Utf8.decode s pos).2 = d at *
      by_cases hb : badc r
      · have HN := As.mk (HB.out hb)
        rcases hb with rfl | rfl | rfl | rfl | rfl
        all_goals
          go_wp2
          go_ret
          exact ⟨⟨true, rfl, by simpa using HN.out⟩, (Chg.refl _ _).alloc _⟩
      · have HN := As.mk (HS.out hb)
        have b1 : ((r : Int) == 40) = false := by simp; intro e; exact hb (.inl (by omega))
        have b2 : ((r : Int) == 41) = false := by simp; intro e; exact hb (.inr (.inl (by omega)))
        have b3 : ((r : Int) == 60) = false := by simp; intro e; exact hb (.inr (.inr (.inl (by omega))))
        have b4 : ((r : Int) == 62) = false := by simp; intro e; exact hb (.inr (.inr (.inr (.inl (by omega)))))
        have b5 : ((r : Int) == 0) = false := by simp; intro e; exact hb (.inr (.inr (.inr (.inr (by omega)))))
        go_wp2
        go_roundw
        case rel => exact ⟨pos + d, rfl, rfl, HN⟩
        case measure => simp; omega
    · have hnx : ∀ ty, (Instr.next (.pointer (some ⟨w.heap.size, 0, none⟩)) true ty).run Try.prog (w.iter s pos) = _ := fun ty => run_next_end w s pos ty hp
      go_wp2
      go_ret
      exact ⟨⟨false, rfl, by simp; exact fun k hk _ => HF.out k hk (by omega)⟩, (Chg.refl _ _).alloc _⟩
end Go.Proofs.Ytmakkjkbonnjgaa
