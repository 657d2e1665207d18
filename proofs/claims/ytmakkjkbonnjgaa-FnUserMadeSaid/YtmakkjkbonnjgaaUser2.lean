/- The contracts of FnUserMade: IsUserPart, userId. -/
import Derived.Test.YtmakkjkbonnjgaaUser
import Derived.Laws.Closers25b
set_option linter.unusedVariables false
set_option linter.unusedSimpArgs false
namespace Go.Proofs.Ytmakkjkbonnjgaa
open Go.RowKit V
def Says (p : Prop) (w : World) (e : Ending) (w' : World) : Prop := ∃ b, e = .returned (.bool b) ∧ (b = true ↔ p) ∧ w' = w
set_option maxRecDepth 100000 in
set_option maxHeartbeats 1000000 in
theorem isUserPart_any (s : ByteArray) (hl : s.size ≤ 140737488351232) (w : World) :
    Calls Try.prog 34 #[.string s] w (Says (fine s) w) := by
  go_enter Try.func34, Try.ntmps34
  go_wp2
  go_loop [6] (fun i => ∃ k : Nat, k ≤ s.size ∧ i = .int .i64 k ∧ As (fineTo s k)) (fun i => s.size - (intOf i).toNat)
  case atStart => exact ⟨0, by omega, rfl, ⟨fun k hk h => absurd h (by omega)⟩⟩
  case round =>
    obtain ⟨k, hk, rfl, HF⟩ := hrel
    by_cases hp : k < s.size
    · have hix : ∀ W : World, (Instr.index 9 (.string s) (.int .i64 (k : Int))).run Try.prog W = .ok (.int .u8 (((s[k]'hp).toNat : Nat) : Int)) W := fun W => by
        rw [run_index_string W _ s .i64 k Try.underlying9, dif_pos ⟨by omega, by omega⟩]
        rfl
      have HS : As (¬ badc (s[k]'hp).toNat → fineTo s (k + 1)) := ⟨fun hb j hj hjk => by
        by_cases e : j = k
        · subst e; exact hb
        · exact HF.out j hj (by omega)⟩
      have HB : As (badc (s[k]'hp).toNat → ¬ fine s) := ⟨fun hb hf => hf k hp hp hb⟩
      have hlt : (s[k]'hp).toNat < 256 := (s[k]'hp).toNat_lt
      generalize (s[k]'hp).toNat = r at *
      by_cases hb : badc r
      · have HN := As.mk (HB.out hb)
        rcases hb with rfl | rfl | rfl | rfl | rfl
        all_goals
          go_wp2
          go_ret
          exact ⟨false, rfl, by simpa using HN.out, rfl⟩
      · have HN := As.mk (HS.out hb)
        have b1 : ((r : Int) == 40) = false := by simp; intro e; exact hb (.inl (by omega))
        have b2 : ((r : Int) == 41) = false := by simp; intro e; exact hb (.inr (.inl (by omega)))
        have b3 : ((r : Int) == 60) = false := by simp; intro e; exact hb (.inr (.inr (.inl (by omega))))
        have b4 : ((r : Int) == 62) = false := by simp; intro e; exact hb (.inr (.inr (.inr (.inl (by omega)))))
        have b5 : ((r : Int) == 0) = false := by simp; intro e; exact hb (.inr (.inr (.inr (.inr (by omega)))))
        go_wp2
        go_round
        case rel => exact ⟨k + 1, by omega, by go_num, HN⟩
        case measure => simp [intOf]; omega
    · go_wp2
      go_ret
      exact ⟨true, rfl, by simp; exact fun j hj _ => HF.out j hj (by omega), rfl⟩

/-- A text, and a blank behind it if it is not empty. -/
def spd (x : ByteArray) : ByteArray := if x.size = 0 then x else x ++ ⟨#[32]⟩
def withComment (a b : ByteArray) : ByteArray := if b.size = 0 then a else spd a ++ (⟨#[40]⟩ ++ b ++ ⟨#[41]⟩)
def withEmail (x c : ByteArray) : ByteArray := if c.size = 0 then x else spd x ++ (⟨#[60]⟩ ++ c ++ ⟨#[62]⟩)
def idOf (a b c : ByteArray) : ByteArray := withEmail (withComment a b) c
theorem empty_of_size {x : ByteArray} (h : x.size = 0) : x = ⟨#[]⟩ := by
  obtain ⟨d⟩ := x
  have : d.size = 0 := h
  rw [Array.eq_empty_of_size_eq_zero this]
theorem isE (x : ByteArray) : x.toList.isEmpty = decide (x.size = 0) := by
  have h := toList_nil_iff_emptyBytes x
  by_cases h0 : x.size = 0
  · rw [decide_eq_true h0, List.isEmpty_iff]
    exact h.2 (empty_of_size h0)
  · rw [decide_eq_false h0]
    cases hx : x.toList with
    | nil => exact absurd (by rw [h.1 hx]; rfl) h0
    | cons y l => rfl
set_option maxRecDepth 100000 in
set_option maxHeartbeats 1000000 in
theorem userId_any (a b c : ByteArray) (ha : a.size ≤ 1048576) (hb : b.size ≤ 1048576) (hc : c.size ≤ 1048576) (w : World) :
    Calls Try.prog 35 #[.string a, .string b, .string c] w fun e w' => e = .returned (.string (idOf a b c)) ∧ w' = w := by
  have ea := isE a
  have eb := isE b
  have ec := isE c
  have e1 : (a ++ ByteArray.mk #[32] ++ (ByteArray.mk #[40] ++ b ++ ByteArray.mk #[41])).toList.isEmpty = false := by
    rw [isE, decide_eq_false]
    simp only [ByteArray.size_append', ByteArray.size_mk', List.size_toArray, List.length_cons]
    omega
  have e2 : (a ++ (ByteArray.mk #[40] ++ b ++ ByteArray.mk #[41])).toList.isEmpty = false := by
    rw [isE, decide_eq_false]
    simp only [ByteArray.size_append', ByteArray.size_mk', List.size_toArray, List.length_cons]
    omega
  by_cases a0 : a.size = 0
  all_goals by_cases b0 : b.size = 0
  all_goals by_cases c0 : c.size = 0
  all_goals
    have A0 := As.mk a0
    have B0 := As.mk b0
    have C0 := As.mk c0
    first | rw [decide_eq_true a0] at ea | rw [decide_eq_false a0] at ea
    first | rw [decide_eq_true b0] at eb | rw [decide_eq_false b0] at eb
    first | rw [decide_eq_true c0] at ec | rw [decide_eq_false c0] at ec
    clear a0 b0 c0
    go_enter Try.func35, Try.ntmps35
    go_wp2
    go_ret
    exact ⟨by simp [idOf, withEmail, withComment, spd, A0.out, B0.out, C0.out], rfl⟩
end Go.Proofs.Ytmakkjkbonnjgaa
