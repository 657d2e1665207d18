/- The contracts of nat.set, bitsDiv, divWVW, nat.divW, nat.div for numbers of at most one word; alias, nat.cmp. -/
import Derived.Test.YthnebljgnmggaaaDoorBgN
set_option linter.unusedVariables false
set_option linter.unusedSimpArgs false
namespace Go.Proofs.YthnebljgnmggaaaDoor
open Go.RowKit V
set_option maxRecDepth 100000 in
theorem div64_any (x y : Nat) (hx : x < 18446744073709551616) (hy : 1 ≤ y) (w : World) :
    Calls Tryd.prog 87 #[.int .u64 0, .int .u64 x, .int .u64 y] w fun e w' => e = .returned (.tuple #[.int .u64 ((x / y : Nat) : Int), .int .u64 ((x % y : Nat) : Int)]) ∧ ∃ q, w' = w.drewN q := by
  have h1 : ((y : Int) == 0) = false := by simp; omega
  have h2 : ¬ ((y : Int) ≤ 0) := by omega
  have h3 : (x : Int) / (y : Int) = ((x / y : Nat) : Int) := by omega
  have h4 : (x : Int) % (y : Int) = ((x % y : Nat) : Int) := by omega
  have h5 : (x : Int).tdiv (y : Int) = ((x / y : Nat) : Int) := (Int.ofNat_tdiv x y).symm
  have h6 : (x : Int).tmod (y : Int) = ((x % y : Nat) : Int) := (Int.ofNat_tmod x y).symm
  have h7 : ¬ (y : Int) = 0 := by omega
  have h8 : ¬ y = 0 := by omega
  obtain ⟨q, hq⟩ : ∃ q, q = x / y := ⟨_, rfl⟩
  obtain ⟨r, hr⟩ : ∃ r, r = x % y := ⟨_, rfl⟩
  have h9 := wrapU (x / y) (Nat.lt_of_le_of_lt (Nat.div_le_self _ _) hx)
  rw [← hq] at h3 h5 h9 ⊢
  rw [← hr] at h4 h6 ⊢
  clear hq hr hy hx
  go_enter Tryd.func87, Tryd.ntmps87
  go_wp2_with fail
  go_quiet (fail)
  go_wp2_with fail
  go_ret2
  exact ⟨rfl, _, rfl⟩
set_option maxRecDepth 100000 in
theorem bitsDiv_any (x y : Nat) (hx : x < 18446744073709551616) (hy : 1 ≤ y) (w : World) :
    Calls Tryd.prog 79 #[.int .u64 0, .int .u64 x, .int .u64 y] w fun e w' => e = .returned (.tuple #[.int .u64 ((x / y : Nat) : Int), .int .u64 ((x % y : Nat) : Int)]) ∧ ∃ q, w' = w.drewN q := by
  have H := As.mk (div64_any x y hx hy w)
  obtain ⟨q, hq⟩ : ∃ q, q = x / y := ⟨_, rfl⟩
  obtain ⟨r, hr⟩ : ∃ r, r = x % y := ⟨_, rfl⟩
  rw [← hq, ← hr] at H ⊢
  clear hq hr hy hx
  go_enter Tryd.func79, Tryd.ntmps79
  go_wp2_with fail
  refine H.out.mono ?_
  rintro e1 w1 ⟨rfl, qq, rfl⟩
  go_wp2_with fail
  go_ret2
  exact ⟨rfl, qq, rfl⟩
set_option maxRecDepth 100000 in
set_option maxHeartbeats 1000000 in
theorem divWVW_any {w : World} {g c d : Nat} {l : List Int} {X : Addr} {x y : Nat} (hB : Blk w g 55 (nums .u64 l)) (hl : 1 ≤ l.length) (hX : w.cell? X = some (.int .u64 (x : Int))) (hXs : X.add 0 = X) (hx : x < 18446744073709551616) (hy : 1 ≤ y) :
    Calls Tryd.prog 64 #[.slice (some ⟨g, 0, none⟩) 1 c, .int .u64 0, .slice (some X) 1 d, .int .u64 y] w (WordTo w g l (x / y) (x % y)) := by
  obtain ⟨f0, f1⟩ := word_at hB (i := 0) (by omega)
  have B2 := As.mk (word_set hB 0 ((x / y : Nat) : Int))
  have H := As.mk (bitsDiv_any x y hx hy w)
  obtain ⟨q, hq⟩ : ∃ q, q = x / y := ⟨_, rfl⟩
  obtain ⟨r, hr⟩ : ∃ r, r = x % y := ⟨_, rfl⟩
  rw [← hq, ← hr] at H ⊢
  rw [← hq] at B2
  clear hq hr hy hx hB hl
  go_enter Tryd.func64, Tryd.ntmps64
  go_wp2_with fail
  refine H.out.mono ?_
  rintro e1 w1 ⟨rfl, qq, rfl⟩
  go_wp2_with fail
  go_ret
  exact ⟨rfl, B2.out.drewN qq, ((Chg.refl _ _).drewN qq).setCell (p := ⟨g, 0, none⟩) _ (fun _ => rfl)⟩
theorem run_copy_word {w : World} {g1 c1 c : Nat} {l1 : List Int} {X : Addr} {x : Int} (hB : Blk w g1 55 (nums .u64 l1)) (hl : 1 ≤ l1.length) (hX : w.cell? X = some (.int .u64 x)) (hXs : X.add 0 = X) (ty : TypeId) :
    ∃ w2, (Builtin.copy_ #[40, 40] ty #[.slice (some ⟨g1, 0, none⟩) 1 c1, .slice (some X) 1 c]).run Tryd.prog w = .ok (.int .i64 1) w2 ∧ Blk w2 g1 55 (nums .u64 (l1.set 0 x)) ∧ Chg (fun b => b = g1) w w2 := by
  obtain ⟨y, t, rfl⟩ : ∃ y t, l1 = y :: t := by
    cases l1 with
    | nil => simp at hl
    | cons y t => exact ⟨y, t, rfl⟩
  have hr := run_copy_row (P := Tryd.prog) w 40 40 ty 55 g1 0 1 c1 X 1 c (nums .u64 (y :: t)).toArray 55 [.int .u64 x] Tryd.underlying40 sizeW hB rfl (fun j v h => by
      rcases j with _ | j
      · simp at h; subst h; rw [hXs]; exact hX
      · simp at h) (by simp [nums]) (by simp [Value.oneCell'])
  refine ⟨_, hr, ?_, ⟨rfl, rfl, rfl, by simp [World.setRow], fun q _ hq => setRow_other w g1 q _ (fun e => hq e)⟩⟩
  have := setRow_heap w g1 (nums .u64 (y :: t)).toArray ((nums .u64 (y :: t)).toArray.toList.take 0 ++ [Value.int .u64 x] ++ (nums .u64 (y :: t)).toArray.toList.drop (0 + [Value.int .u64 x].length)).toArray 55 (0, 0) hB
  unfold Blk
  rw [this]
  simp [nums]
theorem wpList_copy_word {ops : Array Oper} {rest : List Oper} {o : Oper} {a : Act} {Q : Exit → Act → World → Prop} {w : World} (hgd : o.guard = none) (d s : Operand)
    (ho : o.op = .call { callee := .builtin .copy, args := #[d, s], argTypes := #[40, 40] }) (g1 c1 c : Nat) (l1 : List Int) (X : Addr) (x : Int) (hd : a.eval d = .slice (some ⟨g1, 0, none⟩) 1 c1) (hs : a.eval s = .slice (some X) 1 c)
    (hB : Blk w g1 55 (nums .u64 l1)) (hl : 1 ≤ l1.length) (hX : w.cell? X = some (.int .u64 x)) (hXs : X.add 0 = X)
    (h : ∀ w2, Blk w2 g1 55 (nums .u64 (l1.set 0 x)) → Chg (fun b => b = g1) w w2 → wpList Tryd.prog ops Q rest (a.put o.dst (.int .i64 1)) w2) :
    wpList Tryd.prog ops Q (o :: rest) a w := by
  obtain ⟨w2, hr, h2, h3⟩ := run_copy_word (c1 := c1) (c := c) hB hl hX hXs o.type
  refine wpList_plain hgd fun K hK => ?_
  unfold Oper.wp execOp
  simp only [ho, resolve, invoke, builtin, Sem.run_bind, Sem.run_pure, Result.andThen_ok, List.map_toArray, List.map_cons, List.map_nil, hd, hs, hr]
  exact hK _ _ (h w2 h2 h3)
set_option maxRecDepth 100000 in
set_option maxHeartbeats 1000000 in
/-- set, of a number of one word. -/
theorem set_any {w : World} {base g c : Nat} {z : Value} {l : List Int} {x : Nat} (hz : Stq w base z) (hb : base ≤ w.heap.size) (hB : Blk w g 55 (nums .u64 l)) (hl : l.length = c ∧ c ≤ 16) (hc : 1 ≤ c) (h0 : l.getD 0 0 = (x : Int)) (hx1 : 1 ≤ x) (hx : x < 18446744073709551616) :
    Calls Tryd.prog 28 #[z, .slice (some ⟨g, 0, none⟩) 1 c] w (GivesN w base z x) := by
  have HZ := As.mk hz
  have HB := As.mk (And.intro hb (And.intro hB (And.intro hl (And.intro hc h0))))
  have HX := As.mk (And.intro hx1 hx)
  clear hz hb hB hl hc h0 hx1 hx
  go_enter Tryd.func28, Tryd.ntmps28
  go_wp2_with fail
  refine (make_any (n := 1) HZ.out HB.out.1 (by omega) (by omega)).mono ?_
  rintro e1 w1 ⟨g1, c1, l1, rfl, hg1, hB1, hl1, hc1, hch1, ho1⟩
  have hX : w1.cell? ⟨g, 0, none⟩ = some (.int .u64 (x : Int)) := by
    have h := (word_at (HB.out.2.1.chg hch1 (fun e => e)) (i := 0) (by have := HB.out.2.2; omega)).1
    rw [HB.out.2.2.2.2] at h
    exact h
  have HXX := As.mk hX
  have H1 := As.mk (And.intro hg1 (And.intro hB1 (And.intro hl1 (And.intro hc1 (And.intro hch1 ho1)))))
  clear hg1 hB1 hl1 hc1 hch1 ho1 hX
  go_wp2_with ((with_reducible refine gate (N := 11) rfl ?_); refine wpList_copy_word rfl _ _ rfl g1 c1 c l1 ⟨g, 0, none⟩ (x : Int) rfl rfl H1.out.2.1 (by have := H1.out; omega) HXX.out (add_lit0 _ _) ?_
               intro w2 hB2 hc2
               have B2 := As.mk hB2
               have C2 := As.mk hc2
               clear hB2 hc2)
  go_ret
  obtain ⟨hg1, hB1, hl1, hc1, hch, ho⟩ := H1.out
  refine ⟨_, rfl, .inr ⟨g1, 1, c1, _, rfl, hg1, B2.out, by rw [List.length_set]; exact hl1, hc1, .inr ⟨rfl, HX.out.1, HX.out.2, ?_⟩⟩, ?_, fun b e => by have := own_slice e; subst this; exact ho⟩
  · rw [List.getD_eq_getElem?_getD, List.getElem?_set_self (by omega)]; rfl
  · refine (hch.mono (fun _ _ e => e.elim)).trans C2.out (fun b hb e => ?_)
    rcases ho with h | h
    · rw [e]; exact h
    · omega
/-- What a division leaves: the quotient in a new room, the remainder. -/
def DivTo (w : World) (base : Nat) (q r : Nat) (e : Ending) (w' : World) : Prop :=
  ∃ v', e = .returned (.tuple #[v', .int .u64 (r : Int)]) ∧ Nq w' base v' q ∧ Chg NoB w w' ∧ (∀ b, v'.ownBlock = some b → w.heap.size ≤ b)
set_option maxRecDepth 100000 in
set_option maxHeartbeats 1000000 in
/-- divW into no room, by a number over 1. -/
theorem divW_any {w : World} {base base' : Nat} {v : Value} {x y : Nat} (hb : base ≤ w.heap.size) (hv : Nq w base' v x) (hy : 2 ≤ y) :
    Calls Tryd.prog 48 #[.slice none 0 0, v, .int .u64 y] w (DivTo w base (x / y) (x % y)) := by
  have hy0 : ((y : Int) == 0) = false := by simp; omega
  have hy1 : ((y : Int) == 1) = false := by simp; omega
  have HB := As.mk hb
  rcases hv.cases with ⟨A, c, rfl, rfl⟩ | ⟨g, c, l, rfl, hg, hB, hl, hc, hx1, hx, h0⟩
  · rw [Nat.zero_div, Nat.zero_mod]
    clear hv hb hy
    go_enter Tryd.func48, Tryd.ntmps48
    go_wp2_with fail
    go_ret2
    exact ⟨_, rfl, .inl ⟨rfl, rfl⟩, Chg.refl _ _, fun b e => by cases e⟩
  · obtain ⟨f0, _⟩ := word_at hB (i := 0) (by omega)
    rw [h0] at f0
    have F0 := As.mk f0
    have BB := As.mk hB
    have HX := As.mk (And.intro hx hy)
    clear hv hb hg hB hl hc hx1 h0 hx f0 hy
    go_enter Tryd.func48, Tryd.ntmps48
    go_wp2_with fail
    refine (make_any (n := 1) (v := .slice none 0 0) (.inl rfl) HB.out (by omega) (by omega)).mono ?_
    rintro e1 w1 ⟨g1, c1, l1, rfl, hg1, hB1, hl1, hc1, hch1, ho1⟩
    have H1 := As.mk (And.intro hg1 (And.intro hB1 (And.intro hl1 (And.intro hc1 (And.intro hch1 ho1)))))
    have hX : w1.cell? ⟨g, 0, none⟩ = some (.int .u64 (x : Int)) := (hch1.cell (p := ⟨g, 0, none⟩) (World.block_lt_of_cell? w _ F0.out) (fun e => e)).trans F0.out
    have HXX := As.mk hX
    clear hg1 hB1 hl1 hc1 hch1 ho1 hX
    go_wp2_with fail
    refine (divWVW_any (x := x) (y := y) H1.out.2.1 (by have := H1.out; omega) HXX.out (add_lit0 _ _) HX.out.1 (by have := HX.out.2; omega)).mono ?_
    rintro e2 w2 ⟨rfl, hB2, hc2⟩
    have B2 := As.mk hB2
    have C2 := As.mk hc2
    clear hB2 hc2
    go_wp2_with fail
    refine (norm_any (base := base) (x := x / y) (k := 1) H1.out.1 B2.out (by rw [List.length_set]; exact H1.out.2.2.1) H1.out.2.2.2.1 (.inl rfl) (Nat.lt_of_le_of_lt (Nat.div_le_self _ _) HX.out.1) ?a0).mono ?_
    case a0 => rw [List.getD_eq_getElem?_getD, List.getElem?_set_self (by have := H1.out; omega)]; rfl
    rintro e3 w3 ⟨n3, rfl, hn3, rfl⟩
    have N3 := As.mk hn3
    clear hn3
    go_wp2_with fail
    go_ret2
    have hg1 : w.heap.size ≤ g1 := by
      rcases H1.out.2.2.2.2.2 with h | h
      · cases h
      · exact h
    exact ⟨_, rfl, N3.out, H1.out.2.2.2.2.1.trans C2.out (fun b hb e => by omega), fun b e => by have := own_slice e; omega⟩
end Go.Proofs.YthnebljgnmggaaaDoor
