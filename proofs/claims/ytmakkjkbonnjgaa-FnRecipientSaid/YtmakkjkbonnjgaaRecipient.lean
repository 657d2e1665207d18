/- The walk of FnRecipient: an intended recipient's data are a version and a fingerprint. -/
import Derived.Test.YtmakkjkbonnjgaaBase
set_option linter.unusedVariables false
set_option linter.unusedSimpArgs false
namespace Go.Proofs.Ytmakkjkbonnjgaa
open Go.RowKit V

set_option maxRecDepth 100000 in
set_option maxHeartbeats 400000 in
theorem recipientSer_any (g : Nat) (v : Int) (A : Option Addr) (c : Nat) (xs : List Int) (w : World) (hg : Blk w g 64 [.int .i64 v, .slice A xs.length c]) (hx : Rb w A xs) (hl : xs.length ≤ 140737488351232) :
    Calls Try.prog 36 #[.pointer (some ⟨g, 0, none⟩)] w (Gives NoB w ((v % 256) :: xs)) := by
  have h0 := hg.cell 0
  have h1 := hg.cell 1
  simp only [List.getElem?_cons_zero, List.getElem?_cons_succ] at h0 h1
  go_enter Try.func36, Try.ntmps36
  go_wp2_with ((with_reducible refine gate (N := 10) rfl ?_); refine wpList_make_k rfl _ 22 rfl 5 .u8 1 Try.underlying22 info8 (by decide) (xs.length + 1) _ rfl (by omega) (by omega) ?_; intro w1 g1 hg1 ho1 hc1 hz1; have HG1 := As.mk hg1; clear hg1; have hgb := hg.chg hc1 (fun e => e); have h0 := hgb.cell 0; have h1 := hgb.cell 1; simp only [List.getElem?_cons_zero, List.getElem?_cons_succ] at h0 h1; obtain ⟨hs1, hs2⟩ := own_at ho1 0 (by simp))
  have ho2 := own_set ho1 0 (v % 256)
  have hgb' := own_blocks ho1
  have hgl := hg.lt
  have hc2 : Chg NoB w (w1.setCell ⟨g1, 0, none⟩ (.int .u8 (v % 256))) := hc1.setCell (p := ⟨g1, 0, none⟩) _ (fun h => by exfalso; have : g1 < w.heap.size := h; omega)
  generalize w1.setCell ⟨g1, 0, none⟩ (.int .u8 (v % 256)) = w2 at *
  clear ho1 hc1 hz1 hs1 hs2 hgb
  have hgc := hg.chg hc2 (fun e => e)
  have hxc := hx.keep hc2
  have h0 := hgc.cell 0
  have h1 := hgc.cell 1
  simp only [List.getElem?_cons_zero, List.getElem?_cons_succ] at h0 h1
  obtain ⟨A2, hcut, hA2, _⟩ := cut_from (P := Try.prog) 22 5 Try.underlying22 size8 (some ⟨g1, 0, none⟩) (xs.length + 1) (xs.length + 1) 1 .i64 xs.length xs.length (by omega) (by omega) (by omega) (by omega)
  go_still_tail 6, (by kernel_rfl)
  change wpList _ _ _ _ _ (World.drew w2)
  have ho3 := own_fix (own_keep ho2 ((Chg.refl NoB w2).drew))
  refine wpList_copy_rk rfl _ _ 22 22 rfl w.heap.size 5 .u8 Try.underlying22 size8 g1 _ _ ho3 A2 1 xs.length xs.length (by simp; omega) rfl (fun h => by rw [hA2 h]; rfl) A xs c rfl hxc.drew ?_
  intro w4 ho4 hg4
  go_wp2
  go_ret
  have e : splice ((List.replicate (xs.length + 1) (0 : Int)).set 0 (v % 256)) 1 (xs.take xs.length) = (v % 256) :: xs := by
    rw [List.take_of_length_le (Nat.le_refl _), List.replicate_succ, List.set_cons_zero]
    simp [splice]
    try omega
  rw [e] at ho4
  exact ⟨_, rfl, by simpa using ho4, hc2.drew.grown hg4 (fun k hk e => by injection e with e; omega)⟩

set_option maxHeartbeats 400000 in
theorem recipient_any (v : Int) (A : Option Addr) (c : Nat) (xs : List Int) (w : World) (hx : Rb w A xs) (hl : xs.length ≤ 140737488351232) :
    Calls Try.prog 15 #[.int .i64 v, .slice A xs.length c] w (Gives NoB w ((v % 256) :: xs)) := by
  go_enter Try.func15, Try.ntmps15
  go_wp2_with fail
  refine (recipientSer_any w.heap.size v A c xs _ (Blk.new w _ [.int .i64 v, .slice A xs.length c]) (hx.alloc _) hl).mono ?_
  rintro e w' ⟨v1, rfl, ho, hc⟩
  go_wp2
  go_ret
  exact ⟨v1, rfl, own_lower ho (by simp), ((Chg.refl NoB w).alloc _).trans hc (fun _ _ e => e)⟩

set_option maxHeartbeats 400000 in
theorem fnRecipient_walk (v : Int) (A : Option Addr) (c : Nat) (xs : List Int) (W : World) (hv : (Lit.int .u8 v).wf = true) (hx : Rb W A xs) (hc : xs.length ≤ c) (hb : Byt xs) (hl : xs.length ≤ 140737488351232) :
    Calls Try.prog 3 #[.int .u8 v, .slice A xs.length c] W fun e W' => e = .returned (.bool true) ∧ Below W.heap.size W W' := by
  obtain ⟨v0, v1⟩ := wf_u8_byte hv
  by_cases h1 : xs.length ≤ 1048576
  · go_enter Try.func3, Try.ntmps3
    go_wp2_with fail
    refine (recipient_any v A c xs _ hx hl).mono ?_
    rintro e w1 ⟨u1, rfl, ho1, hc1⟩
    obtain ⟨A1, c1, rfl, _, hr1, _⟩ := own_form ho1
    have hx1 := hx.keep hc1
    clear ho1
    go_wp2_with (at_builtin; refine wpList_append_rk rfl _ _ 22 rfl 5 .u8 1 Try.underlying22 info8 (by decide) _ w1.heap.size [v] xs A c rfl rfl (own_lit w1 _ 5 .u8 [v] (Nat.le_refl _) (by simp [maxLen])) (hx1.alloc _) (by simp) (by simp; omega) ?_; intro u2 w2 ho2 hg2 _; obtain ⟨A2, c2, rfl, _, hr2, _⟩ := own_form ho2)
    have e : (v % 256) :: xs = [v] ++ xs := by rw [Int.emod_eq_of_lt v0 (by omega)]; rfl
    have hc2 : Chg NoB w1 w2 := ((Chg.refl NoB w1).alloc _).grown hg2 (fun k hk e => by have e2 : w1.heap.size = k := Option.some.inj e; omega)
    refine (same_yes A1 _ c1 _ A2 _ c2 _ (by simp) (by simp) (hr1.keep hc2) (by rw [e]; exact hr2)).mono ?_
    rintro e w3 ⟨rfl, n3, rfl⟩
    go_wp2
    go_ret
    exact ⟨rfl, ((hc1.trans hc2 (fun _ _ e => e)).drewN n3).below (Nat.le_refl _) (fun _ _ e => e)⟩
  · go_enter Try.func3, Try.ntmps3
    go_wp2
    all_goals go_ret
    all_goals exact ⟨rfl, Below.refl _ _⟩
end Go.Proofs.Ytmakkjkbonnjgaa
