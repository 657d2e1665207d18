/- Words for math/big's numbers of at most one word; the contracts of nat.make, setWord, set, norm. -/
import Derived.Test.YthnebljgnmggaaaDoorProg
import Derived.Test.YthnebljgnmggaaaDoorV3
import Derived.Test.YthnebljgnmggaaaDoorPure
import Derived.Deep.DeepCutAuto
set_option linter.unusedVariables false
set_option linter.unusedSimpArgs false
namespace Go.Proofs.YthnebljgnmggaaaDoor
open Go.RowKit V
theorem infoW : (Tryd.prog.info? 55).map (fun i => (i.zero, i.size, i.bytes)) = some (some (.int .u64 0), 1, 8) := by kernel_rfl
theorem sizeW : (Tryd.prog.info? 55).map (·.size) = some 1 := by kernel_rfl
/-- Room for a number: nothing, or a row of words that is known whole. -/
def Stq (w : World) (base : Nat) (v : Value) : Prop :=
  v = .slice none 0 0 ∨ ∃ (g n c : Nat) (l : List Int), v = .slice (some ⟨g, 0, none⟩) n c ∧ base ≤ g ∧ Blk w g 55 (nums .u64 l) ∧ (l.length = c ∧ c ≤ 16) ∧ n ≤ c ∧ 1 ≤ c
/-- A number of at most one word. -/
def Nq (w : World) (base : Nat) (v : Value) (x : Nat) : Prop :=
  (v = .slice none 0 0 ∧ x = 0) ∨ ∃ (g n c : Nat) (l : List Int), v = .slice (some ⟨g, 0, none⟩) n c ∧ base ≤ g ∧ Blk w g 55 (nums .u64 l) ∧ (l.length = c ∧ c ≤ 16) ∧ 1 ≤ c ∧ ((n = 0 ∧ x = 0) ∨ (n = 1 ∧ 1 ≤ x ∧ x < 18446744073709551616 ∧ l.getD 0 0 = (x : Int)))
theorem Nq.st {w : World} {base : Nat} {v : Value} {x : Nat} (h : Nq w base v x) : Stq w base v := by
  rcases h with ⟨h, _⟩ | ⟨g, n, c, l, h1, h2, h3, h4, h5, h6⟩
  · exact .inl h
  · exact .inr ⟨g, n, c, l, h1, h2, h3, h4, by omega, h5⟩
theorem Nq.chg {w w' : World} {S : Nat → Prop} {base : Nat} {v : Value} {x : Nat} (h : Nq w base v x) (hc : Chg S w w') (hs : ∀ b, v.ownBlock = some b → ¬ S b) : Nq w' base v x := by
  rcases h with h | ⟨g, n, c, l, rfl, h2, h3, h4⟩
  · exact .inl h
  · exact .inr ⟨g, n, c, l, rfl, h2, h3.chg hc (hs g rfl), h4⟩
theorem Nq.keep {w w' : World} {base : Nat} {v : Value} {x : Nat} (h : Nq w base v x) (hc : Chg NoB w w') : Nq w' base v x := h.chg hc (fun _ _ e => e)
theorem Nq.lt {w : World} {base : Nat} {v : Value} {x : Nat} (h : Nq w base v x) : ∀ b, v.ownBlock = some b → base ≤ b ∧ b < w.heap.size := by
  intro b e
  rcases h with ⟨rfl, _⟩ | ⟨g, n, c, l, rfl, h2, h3, _⟩
  · cases e
  · injection e with e
    have e2 : g = b := e
    subst e2
    exact ⟨h2, h3.lt⟩
theorem Nq.lower {w : World} {base base' : Nat} {v : Value} {x : Nat} (h : Nq w base v x) (hb : base' ≤ base) : Nq w base' v x := by
  rcases h with h | ⟨g, n, c, l, h1, h2, r⟩
  · exact .inl h
  · exact .inr ⟨g, n, c, l, h1, Nat.le_trans hb h2, r⟩
/-- A number by its length: 0 words, or 1 that reads so. -/
theorem Nq.cases {w : World} {base : Nat} {v : Value} {x : Nat} (h : Nq w base v x) : (∃ A c, v = .slice A 0 c ∧ x = 0) ∨ (∃ g c l, v = .slice (some ⟨g, 0, none⟩) 1 c ∧ base ≤ g ∧ Blk w g 55 (nums .u64 l) ∧ (l.length = c ∧ c ≤ 16) ∧ 1 ≤ c ∧ 1 ≤ x ∧ x < 18446744073709551616 ∧ l.getD 0 0 = (x : Int)) := by
  rcases h with ⟨rfl, h⟩ | ⟨g, n, c, l, rfl, h2, h3, h4, h5, ⟨rfl, h6⟩ | ⟨rfl, h6, h7, h8⟩⟩
  · exact .inl ⟨_, _, rfl, h⟩
  · exact .inl ⟨_, _, rfl, h6⟩
  · exact .inr ⟨g, c, l, rfl, h2, h3, h4, h5, h6, h7, h8⟩
/-- One word of a row that is known whole. -/
theorem word_at {w : World} {g : Nat} {l : List Int} (h : Blk w g 55 (nums .u64 l)) {i : Nat} (hi : i < l.length) : w.cell? ⟨g, i, none⟩ = some (.int .u64 (l.getD i 0)) ∧ w.frozen? ⟨g, i, none⟩ = false := by
  refine ⟨?_, h.frozen i⟩
  rw [h.cell, nums_get hi]
theorem word_set {w : World} {g : Nat} {l : List Int} (h : Blk w g 55 (nums .u64 l)) (i : Nat) (x : Int) : Blk (w.setCell ⟨g, i, none⟩ (.int .u64 x)) g 55 (nums .u64 (l.set i x)) := by
  rw [← nums_set]
  exact h.set_ i _
theorem made_nums (m : Nat) : madeCells #[Value.int .u64 0] m = (nums .u64 (List.replicate m 0)).toArray := by
  apply Array.toList_inj.1
  rw [toList_madeCells_one]
  simp [nums]
theorem make_words (n m : Nat) (hn : n ≤ m) (hm : m ≤ 16) (W : World) : (Instr.makeSlice 40 (.int .i64 (n : Int)) (.int .i64 (m : Int))).run Tryd.prog W = .ok (.slice (some ⟨W.heap.size, 0, none⟩) n m) (W.alloc (.cells (nums .u64 (List.replicate m 0)).toArray 55)) := by
  obtain ⟨i, hi, hzz⟩ := Option.map_eq_some_iff.1 infoW
  simp only [Prod.mk.injEq] at hzz
  obtain ⟨hz, hs, hb⟩ := hzz
  have hr := run_make (P := Tryd.prog) W 40 55 i (.int .u64 0) Tryd.underlying40 hi hz .i64 .i64 n m (by omega) (by omega) (by rw [hb]; omega) (by omega)
  simp only [Int.toNat_natCast, hs, Nat.mul_one, show (Value.int IntKind.u64 0).cells = #[Value.int .u64 0] from rfl, made_nums] at hr
  exact hr
/-- What make hands back: room for n words; it is v's own, or new. -/
def MadeN (w : World) (base : Nat) (v : Value) (n : Nat) (e : Ending) (w' : World) : Prop :=
  ∃ (g c : Nat) (l : List Int), e = .returned (.slice (some ⟨g, 0, none⟩) n c) ∧ base ≤ g ∧ Blk w' g 55 (nums .u64 l) ∧ (l.length = c ∧ c ≤ 16) ∧ n ≤ c ∧ Chg NoB w w' ∧ (v.ownBlock = some g ∨ w.heap.size ≤ g)
set_option maxRecDepth 100000 in
set_option maxHeartbeats 1000000 in
theorem make_any {w : World} {base : Nat} {v : Value} {n : Nat} (h : Stq w base v) (hb : base ≤ w.heap.size) (h1 : 1 ≤ n) (h2 : n ≤ 2) :
    Calls Tryd.prog 30 #[v, .int .i64 n] w (MadeN w base v n) := by
  have new : ∀ (m : Nat), n ≤ m → m ≤ 16 → MadeN w base v n (.returned (.slice (some ⟨w.heap.size, 0, none⟩) n m)) (w.alloc (.cells (nums .u64 (List.replicate m 0)).toArray 55)) := fun m hm hm2 =>
    ⟨w.heap.size, m, List.replicate m 0, rfl, hb, Blk.new w _ _, ⟨by simp, hm2⟩, hm, (Chg.refl _ _).alloc _, .inr (Nat.le_refl _)⟩
  have NEW := As.mk new
  have mk1 : ∀ W : World, (Instr.makeSlice 40 (.int .i64 1) (.int .i64 1)).run Tryd.prog W = .ok (.slice (some ⟨W.heap.size, 0, none⟩) 1 1) (W.alloc (.cells (nums .u64 (List.replicate 1 0)).toArray 55)) := make_words 1 1 (by omega) (by omega)
  have mk2 : ∀ W : World, (Instr.makeSlice 40 (.int .i64 2) (.int .i64 6)).run Tryd.prog W = .ok (.slice (some ⟨W.heap.size, 0, none⟩) 2 6) (W.alloc (.cells (nums .u64 (List.replicate 6 0)).toArray 55)) := make_words 2 6 (by omega) (by omega)
  clear new
  rcases h with rfl | ⟨g, k, c, l, rfl, hg, hB, hl, hk, hc⟩
  · rcases (by omega : n = 1 ∨ n = 2) with rfl | rfl
    · go_enter Tryd.func30, Tryd.ntmps30
      go_wp2_with fail
      go_ret
      exact NEW.out 1 (by omega) (by omega)
    · go_enter Tryd.func30, Tryd.ntmps30
      go_wp2_with fail
      go_ret
      exact NEW.out 6 (by omega) (by omega)
  · by_cases hr : n ≤ c
    · have hri : (n : Int) ≤ (c : Int) := by omega
      have hcut := cut_to (P := Tryd.prog) 40 55 Tryd.underlying40 sizeW (some ⟨g, 0, none⟩) k c (n : Int) .i64 n rfl hr
      have HB := As.mk (And.intro hB (And.intro hg hl))
      clear hB hl hg
      go_enter Tryd.func30, Tryd.ntmps30
      go_wp2_with fail
      go_ret
      exact ⟨g, c, l, rfl, HB.out.2.1, HB.out.1, HB.out.2.2, hr, Chg.refl _ _, .inl rfl⟩
    · have hri : ¬ (n : Int) ≤ (c : Int) := by omega
      have hn2 : n = 2 := by omega
      subst hn2
      clear hB hl hg
      go_enter Tryd.func30, Tryd.ntmps30
      go_wp2_with fail
      go_ret
      exact NEW.out 6 (by omega) (by omega)
/-- z[:0] of any room. -/
theorem cut_zero {w : World} {base : Nat} {v : Value} (h : Stq w base v) : ∃ v', (∀ W : World, (Instr.slice 40 v none (some (.int .i64 0)) none).run Tryd.prog W = .ok v' W) ∧ Nq w base v' 0 ∧ (∀ b, v'.ownBlock = some b → v.ownBlock = some b) ∧ ∃ A c, v' = .slice A 0 c := by
  rcases h with rfl | ⟨g, k, c, l, rfl, hg, hB, hl, hk, hc⟩
  · exact ⟨_, cut_to (P := Tryd.prog) 40 55 Tryd.underlying40 sizeW none 0 0 0 .i64 0 rfl (by omega), .inl ⟨rfl, rfl⟩, fun b e => e, _, _, rfl⟩
  · exact ⟨_, cut_to (P := Tryd.prog) 40 55 Tryd.underlying40 sizeW (some ⟨g, 0, none⟩) k c 0 .i64 0 rfl (by omega), .inr ⟨g, 0, c, l, rfl, hg, hB, hl, hc, .inl ⟨rfl, rfl⟩⟩, fun b e => e, _, _, rfl⟩
/-- What a function of numbers hands back: a number in z's own room, or in a new one. -/
def GivesN (w : World) (base : Nat) (z : Value) (x : Nat) (e : Ending) (w' : World) : Prop :=
  ∃ v', e = .returned v' ∧ Nq w' base v' x ∧ Chg (fun b => z.ownBlock = some b) w w' ∧ (∀ b, v'.ownBlock = some b → z.ownBlock = some b ∨ w.heap.size ≤ b)
set_option maxRecDepth 100000 in
set_option maxHeartbeats 1000000 in
theorem setWord_any {w : World} {base : Nat} {z : Value} {x : Nat} (h : Stq w base z) (hb : base ≤ w.heap.size) (hx : x < 18446744073709551616) :
    Calls Tryd.prog 49 #[z, .int .u64 x] w (GivesN w base z x) := by
  have HS := As.mk h
  have HB := As.mk hb
  by_cases h0 : x = 0
  · subst h0
    obtain ⟨v', hc, hn, ho, A, c, rfl⟩ := cut_zero h
    have HN := As.mk (And.intro hn ho)
    clear h hb hn ho
    go_enter Tryd.func49, Tryd.ntmps49
    go_wp2_with fail
    go_ret
    exact ⟨_, rfl, HN.out.1, Chg.refl _ _, fun b e => .inl (HN.out.2 b e)⟩
  · have hx0 : ((x : Int) == 0) = false := by simp; omega
    clear h hb
    have hx1 : 1 ≤ x := by omega
    clear h0
    go_enter Tryd.func49, Tryd.ntmps49
    go_wp2_with fail
    refine (make_any (n := 1) HS.out HB.out (by omega) (by omega)).mono ?_
    rintro e1 w1 ⟨g, c, l, rfl, hg, hB, hl, hc, hch, ho⟩
    obtain ⟨f0, f1⟩ := word_at hB (i := 0) (by omega)
    have B2 := As.mk (word_set hB 0 (x : Int))
    have HH := As.mk (And.intro hg (And.intro hl (And.intro hc (And.intro hch ho))))
    clear hB hg hl hc hch ho
    go_wp2_with fail
    go_ret
    obtain ⟨hg, hl, hc, hch, ho⟩ := HH.out
    refine ⟨_, rfl, .inr ⟨g, 1, c, _, rfl, hg, B2.out, by rw [List.length_set]; exact hl, hc, .inr ⟨rfl, hx1, hx, ?_⟩⟩, ?_, fun b e => ?_⟩
    · rw [List.getD_eq_getElem?_getD, List.getElem?_set_self (by omega)]; rfl
    · exact (hch.mono (fun _ _ e => e.elim)).setCell (p := ⟨g, 0, none⟩) _ (fun hlt => by
        rcases ho with ho | ho
        · exact ho
        · exfalso; have h2 : g < w.heap.size := hlt; omega)
    · injection e with e
      have e2 : g = b := e
      subst e2
      exact ho
set_option maxRecDepth 100000 in
set_option maxHeartbeats 1000000 in
/-- norm of a row of one or two words, the second 0. -/
theorem norm_any {w : World} {base g c k : Nat} {l : List Int} {x : Nat} (hg : base ≤ g) (hB : Blk w g 55 (nums .u64 l)) (hl : l.length = c ∧ c ≤ 16) (hc : k ≤ c) (hk : k = 1 ∨ k = 2 ∧ l.getD 1 0 = 0) (hx : x < 18446744073709551616) (h0 : l.getD 0 0 = (x : Int)) :
    Calls Tryd.prog 33 #[.slice (some ⟨g, 0, none⟩) k c] w fun e w' => ∃ n, e = .returned (.slice (some ⟨g, 0, none⟩) n c) ∧ Nq w base (.slice (some ⟨g, 0, none⟩) n c) x ∧ w' = w := by
  obtain ⟨f0, _⟩ := word_at hB (i := 0) (by omega)
  have f1 : k = 2 → w.cell? ⟨g, 1, none⟩ = some (.int .u64 0) := fun e => by
    rcases hk with h | h
    · omega
    · rw [← h.2]; exact (word_at hB (i := 1) (by omega)).1
  rw [h0] at f0
  have HF := As.mk f1
  have HH := As.mk (And.intro hg (And.intro hB (And.intro hl h0)))
  have hc1 : 1 ≤ c := by omega
  have hci : (1 : Int) ≤ (c : Int) := by omega
  have hci0 : (0 : Int) ≤ (c : Int) := by omega
  have HK : As (1 ≤ k ∧ k ≤ 2) := ⟨by omega⟩
  clear hB hg hl h0 hk f1
  go_enter Tryd.func33, Tryd.ntmps33
  go_wp2_with fail
  go_loop [3] (fun iv => ∃ i : Nat, iv = .int .i64 i ∧ i ≤ k ∧ (i = 0 → x = 0)) (fun iv => (intOf iv).toNat)
  case atStart => exact ⟨k, rfl, Nat.le_refl _, fun h => by have := HK.out; omega⟩
  case round =>
    obtain ⟨i, rfl, hi, hz⟩ := hrel
    have hi3 : i = 0 ∨ i = 1 ∨ i = 2 := by have := HK.out; omega
    have HZ := As.mk hz
    clear hz
    rcases hi3 with rfl | rfl | rfl
    · go_wp2_with fail
      go_ret
      exact ⟨0, rfl, .inr ⟨g, 0, c, l, rfl, HH.out.1, HH.out.2.1, HH.out.2.2.1, hc1, .inl ⟨rfl, by first | exact HZ.out rfl | exact HZ.out trivial⟩⟩, rfl⟩
    · have hki : (0 : Int) < (k : Int) := by have := HK.out; omega
      have hki2 : 0 < k := by have := HK.out; omega
      by_cases h0 : x = 0
      · have hb : ((x : Int) == 0) = true := by simp [h0]
        go_wp2_with fail
        go_round
        case rel => exact ⟨0, by first | rfl | go_num, by omega, fun _ => h0⟩
        case measure => simp [intOf]
      · have hb : ((x : Int) == 0) = false := by simp; omega
        go_wp2_with fail
        go_ret
        exact ⟨1, rfl, .inr ⟨g, 1, c, l, rfl, HH.out.1, HH.out.2.1, HH.out.2.2.1, hc1, .inr ⟨rfl, by omega, hx, HH.out.2.2.2⟩⟩, rfl⟩
    · obtain rfl : k = 2 := by have := HK.out; omega
      have f1 := HF.out rfl
      go_wp2_with fail
      go_round
      case rel => exact ⟨1, by first | rfl | go_num, by omega, fun h => by omega⟩
      case measure => simp [intOf]
end Go.Proofs.YthnebljgnmggaaaDoor
