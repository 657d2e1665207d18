/- The contract of impl.MakeUser. -/
import Derived.Test.YtmakkjkbonnjgaaUser3
import Derived.Laws.ResultCell
set_option linter.unusedVariables false
set_option linter.unusedSimpArgs false
namespace Go.Proofs.Ytmakkjkbonnjgaa
open Go.RowKit V
set_option maxRecDepth 100000 in
set_option maxHeartbeats 1000000 in
theorem makeUser_bad (a b c : ByteArray) (h : ¬ (fine a ∧ fine b ∧ fine c)) (w : World) :
    Calls Try.prog 33 #[.string a, .string b, .string c] w fun e w' => e = .returned (.tuple #[.agg #[.string ⟨#[]⟩, .string ⟨#[]⟩, .string ⟨#[]⟩, .string ⟨#[]⟩], .bool false]) ∧ Chg NoB w w' := by
  have H := As.mk h
  clear h
  go_enter Try.func33, Try.ntmps33
  go_wp2_with fail
  refine (newUserId_bad a b c H.out _).mono ?_
  rintro e w1 ⟨rfl, hc1⟩
  have C1 := As.mk hc1
  have k0 := hc1.block w.heap.size (by simp) (fun e => e)
  rw [show (w.alloc (.cells #[Value.string ⟨#[]⟩, .string ⟨#[]⟩, .string ⟨#[]⟩, .string ⟨#[]⟩] 56)).heap[w.heap.size]? = some (.cells #[Value.string ⟨#[]⟩, .string ⟨#[]⟩, .string ⟨#[]⟩, .string ⟨#[]⟩] 56 (0, 0)) from heap_alloc_new w _] at k0
  clear hc1
  have b1 : Blk w1 w.heap.size 56 [.string ⟨#[]⟩, .string ⟨#[]⟩, .string ⟨#[]⟩, .string ⟨#[]⟩] := k0
  have s0 := b1.cell 0
  have s1 := b1.cell 1
  have s2 := b1.cell 2
  have s3 := b1.cell 3
  have f0 := b1.frozen 0
  have f1 := b1.frozen 1
  have f2 := b1.frozen 2
  have f3 := b1.frozen 3
  simp only [List.getElem?_cons_zero, List.getElem?_cons_succ] at s0 s1 s2 s3
  clear k0
  go_wp2_with fail
  refine bodyPost_ret (v := .tuple #[.agg #[.string ⟨#[]⟩, .string ⟨#[]⟩, .string ⟨#[]⟩, .string ⟨#[]⟩], .bool false]) ?_ rfl ⟨rfl, ?_⟩
  · rw [results_cell_tmp rfl]
    go_simp
  · exact (((((((Chg.refl NoB w).alloc _).trans C1.out (fun _ _ e => e)).setCell (p := ⟨w.heap.size, 0, none⟩) _ (fun h => absurd h (Nat.lt_irrefl _))).setCell (p := ⟨w.heap.size, 1, none⟩) _ (fun h => absurd h (Nat.lt_irrefl _))).setCell (p := ⟨w.heap.size, 2, none⟩) _ (fun h => absurd h (Nat.lt_irrefl _))).setCell (p := ⟨w.heap.size, 3, none⟩) _ (fun h => absurd h (Nat.lt_irrefl _)))
set_option maxRecDepth 100000 in
set_option maxHeartbeats 1000000 in
theorem makeUser_good (a b c : ByteArray) (h : fine a ∧ fine b ∧ fine c) (ha : a.size ≤ 1048576) (hb : b.size ≤ 1048576) (hc : c.size ≤ 1048576) (w : World) :
    Calls Try.prog 33 #[.string a, .string b, .string c] w fun e w' => e = .returned (.tuple #[.agg #[.string (idOf a b c), .string a, .string b, .string c], .bool true]) ∧ Chg NoB w w' := by
  have H := As.mk h
  clear h
  go_enter Try.func33, Try.ntmps33
  go_wp2_with fail
  refine (newUserId_good a b c H.out ha hb hc _).mono ?_
  rintro e w1 ⟨g, rfl, hc1, c0, c1, c2, c3⟩
  have C1 := As.mk hc1
  have k0 := hc1.block w.heap.size (by simp) (fun e => e)
  rw [show (w.alloc (.cells #[Value.string ⟨#[]⟩, .string ⟨#[]⟩, .string ⟨#[]⟩, .string ⟨#[]⟩] 56)).heap[w.heap.size]? = some (.cells #[Value.string ⟨#[]⟩, .string ⟨#[]⟩, .string ⟨#[]⟩, .string ⟨#[]⟩] 56 (0, 0)) from heap_alloc_new w _] at k0
  clear hc1
  have b1 : Blk w1 w.heap.size 56 [.string ⟨#[]⟩, .string ⟨#[]⟩, .string ⟨#[]⟩, .string ⟨#[]⟩] := k0
  have s0 := b1.cell 0
  have s1 := b1.cell 1
  have s2 := b1.cell 2
  have s3 := b1.cell 3
  have f0 := b1.frozen 0
  have f1 := b1.frozen 1
  have f2 := b1.frozen 2
  have f3 := b1.frozen 3
  simp only [List.getElem?_cons_zero, List.getElem?_cons_succ] at s0 s1 s2 s3
  clear k0
  go_wp2_with fail
  go_still_tail 17, (by kernel_rfl)
  change wpList _ _ _ _ _ (World.drew w1)
  go_wp2
  refine bodyPost_ret (v := .tuple #[.agg #[.string (idOf a b c), .string a, .string b, .string c], .bool true]) ?_ rfl ⟨rfl, ?_⟩
  · rw [results_cell_tmp rfl]
    go_simp
  · exact (((((((Chg.refl NoB w).alloc _).trans C1.out (fun _ _ e => e)).setCell (p := ⟨w.heap.size, 0, none⟩) _ (fun h => absurd h (Nat.lt_irrefl _))).setCell (p := ⟨w.heap.size, 1, none⟩) _ (fun h => absurd h (Nat.lt_irrefl _))).setCell (p := ⟨w.heap.size, 2, none⟩) _ (fun h => absurd h (Nat.lt_irrefl _))).setCell (p := ⟨w.heap.size, 3, none⟩) _ (fun h => absurd h (Nat.lt_irrefl _))).drew
end Go.Proofs.Ytmakkjkbonnjgaa
