/- The contracts of FnUserMade: NewUserId, MakeUser. -/
import Derived.Test.YtmakkjkbonnjgaaUser2
set_option linter.unusedVariables false
set_option linter.unusedSimpArgs false
namespace Go.Proofs.Ytmakkjkbonnjgaa
open Go.RowKit V
set_option maxRecDepth 100000 in
set_option maxHeartbeats 1000000 in
theorem newUserId_bad (a b c : ByteArray) (h : ¬ (fine a ∧ fine b ∧ fine c)) (w : World) :
    Calls Try.prog 55 #[.string a, .string b, .string c] w fun e w' => e = .returned (.pointer none) ∧ Chg NoB w w' := by
  have H := As.mk h
  clear h
  go_enter Try.func55, Try.ntmps55
  go_wp2_with fail
  refine (hasInvalid_any a w).mono ?_
  rintro e w1 ⟨⟨b1, rfl, h1⟩, hc1⟩
  have H1 := As.mk h1
  have C1 := As.mk hc1
  clear h1 hc1
  rcases b1 with _ | _
  · have F1 := As.mk (H1.out.1 rfl)
    clear H1
    go_wp2_with fail
    refine (hasInvalid_any b w1).mono ?_
    rintro e w2 ⟨⟨b2, rfl, h2⟩, hc2⟩
    have H2 := As.mk h2
    have C2 : As (Chg NoB w w2) := ⟨C1.out.trans hc2 (fun _ _ e => e)⟩
    clear h2 hc2
    rcases b2 with _ | _
    · have F2 := As.mk (H2.out.1 rfl)
      clear H2
      go_wp2_with fail
      refine (hasInvalid_any c w2).mono ?_
      rintro e w3 ⟨⟨b3, rfl, h3⟩, hc3⟩
      have H3 := As.mk h3
      have C3 : As (Chg NoB w w3) := ⟨C2.out.trans hc3 (fun _ _ e => e)⟩
      clear h3 hc3
      rcases b3 with _ | _
      · exact absurd ⟨F1.out, F2.out, H3.out.1 rfl⟩ H.out
      · go_wp2_with fail
        go_ret
        exact ⟨rfl, C3.out⟩
    · go_wp2_with fail
      go_ret
      exact ⟨rfl, C2.out⟩
  · go_wp2_with fail
    go_ret
    exact ⟨rfl, C1.out⟩

set_option maxRecDepth 100000 in
set_option maxHeartbeats 2000000 in
theorem newUserId_good (a b c : ByteArray) (h : fine a ∧ fine b ∧ fine c) (ha : a.size ≤ 1048576) (hb : b.size ≤ 1048576) (hc : c.size ≤ 1048576) (w : World) :
    Calls Try.prog 55 #[.string a, .string b, .string c] w fun e w' => ∃ g, e = .returned (.pointer (some ⟨g, 0, none⟩)) ∧ Chg NoB w w' ∧
      w'.cell? ⟨g, 0, none⟩ = some (.string (idOf a b c)) ∧ w'.cell? ⟨g, 1, none⟩ = some (.string a) ∧ w'.cell? ⟨g, 2, none⟩ = some (.string b) ∧ w'.cell? ⟨g, 3, none⟩ = some (.string c) := by
  have H := As.mk h
  clear h
  go_enter Try.func55, Try.ntmps55
  go_wp2_with fail
  refine (hasInvalid_any a w).mono ?_
  rintro e w1 ⟨⟨b1, rfl, h1⟩, hc1⟩
  obtain rfl : b1 = false := h1.2 H.out.1
  have C1 := As.mk hc1
  clear h1 hc1
  go_wp2_with fail
  refine (hasInvalid_any b w1).mono ?_
  rintro e w2 ⟨⟨b2, rfl, h2⟩, hc2⟩
  obtain rfl : b2 = false := h2.2 H.out.2.1
  have C2 : As (Chg NoB w w2) := ⟨C1.out.trans hc2 (fun _ _ e => e)⟩
  clear h2 hc2
  go_wp2_with fail
  refine (hasInvalid_any c w2).mono ?_
  rintro e w3 ⟨⟨b3, rfl, h3⟩, hc3⟩
  obtain rfl : b3 = false := h3.2 H.out.2.2
  have C3 : As (Chg NoB w w3) := ⟨C2.out.trans hc3 (fun _ _ e => e)⟩
  clear h3 hc3 C1 C2
  have e1 : 0 < (a ++ ByteArray.mk #[32] ++ ByteArray.mk #[40] ++ b ++ ByteArray.mk #[41]).size := by
    simp only [ByteArray.size_append', ByteArray.size_mk', List.size_toArray, List.length_cons]
    omega
  have e2 : 0 < (a ++ ByteArray.mk #[40] ++ b ++ ByteArray.mk #[41]).size := by
    simp only [ByteArray.size_append', ByteArray.size_mk', List.size_toArray, List.length_cons]
    omega
  by_cases a0 : a.size = 0
  all_goals by_cases b0 : b.size = 0
  all_goals by_cases c0 : c.size = 0
  all_goals
    go_wp2_with fail
    go_ret
    refine ⟨w3.heap.size, rfl, C3.out.alloc _, ((Blk.new w3 84 [_, _, _, _]).cell 0).trans (congrArg (fun x => some (Value.string x)) ?_), (Blk.new w3 84 [_, _, _, _]).cell 1, (Blk.new w3 84 [_, _, _, _]).cell 2, (Blk.new w3 84 [_, _, _, _]).cell 3⟩
    simp [idOf, withEmail, withComment, spd, a0, b0, c0, ByteArray.append_assoc]
end Go.Proofs.Ytmakkjkbonnjgaa
