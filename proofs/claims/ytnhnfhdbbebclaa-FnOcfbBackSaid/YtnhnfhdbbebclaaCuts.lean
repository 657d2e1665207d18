/- Plain words for a text that is cut into pieces. -/
import Derived.Test.YtnhnfhdbbebclaaStrP
set_option linter.unusedVariables false
set_option linter.unusedSimpArgs false
namespace Go.Proofs.Ytnhnfhdbbebclaa.V
open Go.RowKit
/-- Y in pieces as long as those. -/
def cuts : List (List Int) → List Int → List (List Int)
  | [], _ => []
  | x :: xs, Y => Y.take x.length :: cuts xs (Y.drop x.length)
theorem cuts_length : ∀ (xs : List (List Int)) (Y : List Int), (cuts xs Y).length = xs.length
  | [], _ => rfl
  | x :: xs, Y => by simp [cuts, cuts_length xs]
theorem cuts_append : ∀ (xs : List (List Int)) (y : List Int) (Y : List Int), cuts (xs ++ [y]) Y = cuts xs Y ++ [(Y.drop xs.flatten.length).take y.length]
  | [], y, Y => by simp [cuts]
  | x :: xs, y, Y => by
    rw [List.cons_append, cuts, cuts, cuts_append xs y, List.cons_append, List.drop_drop, List.flatten_cons, List.length_append]
theorem cuts_step {xss : List (List Int)} {k : Nat} (h : k < xss.length) (Y : List Int) : cuts (xss.take (k + 1)) Y = cuts (xss.take k) Y ++ [(Y.drop (xss.take k).flatten.length).take xss[k].length] := by
  rw [List.take_succ_eq_append_getElem h, cuts_append]
theorem cuts_flat : ∀ (xs : List (List Int)) (Y : List Int), Y.length = xs.flatten.length → (cuts xs Y).flatten = Y
  | [], Y, h => by simp at h; subst h; rfl
  | x :: xs, Y, h => by
    rw [List.flatten_cons, List.length_append] at h
    rw [cuts, List.flatten_cons, cuts_flat xs _ (by rw [List.length_drop]; omega), List.take_append_drop]
theorem cuts_lens : ∀ (xs : List (List Int)) (Y : List Int), Y.length = xs.flatten.length → (cuts xs Y).map List.length = xs.map List.length
  | [], _, _ => rfl
  | x :: xs, Y, h => by
    rw [List.flatten_cons, List.length_append] at h
    rw [cuts, List.map_cons, List.map_cons, cuts_lens xs _ (by rw [List.length_drop]; omega), List.length_take]
    congr 1
    omega
theorem cuts_byt : ∀ (xs : List (List Int)) (Y : List Int), Byt Y → ∀ z ∈ cuts xs Y, Byt z
  | [], _, _, z, hz => by cases hz
  | x :: xs, Y, h, z, hz => by
    rcases List.mem_cons.1 hz with rfl | hz
    · exact h.take _
    · exact cuts_byt xs _ (h.drop _) z hz
theorem mem_len_le {xss : List (List Int)} {xs : List Int} (h : xs ∈ xss) : xs.length ≤ xss.flatten.length := by
  obtain ⟨j, hj, rfl⟩ := List.mem_iff_getElem.1 h
  have h1 := flat_take hj
  have h2 := flat_take_le xss (j + 1)
  rw [h1, List.length_append] at h2
  omega
theorem flat_len_le (b : Nat) : ∀ (xss : List (List Int)), (∀ xs ∈ xss, xs.length ≤ b) → xss.flatten.length ≤ xss.length * b
  | [], _ => by simp
  | x :: xs, h => by
    rw [List.flatten_cons, List.length_append, List.length_cons, Nat.add_mul]
    have h1 := flat_len_le b xs (fun y hy => h y (List.mem_cons_of_mem _ hy))
    have h2 := h x (List.mem_cons_self ..)
    omega
/-- An append of one more slice to a row, the world at the append lying behind the row's. -/
theorem Rws.push {K : Nat → Prop} {w X w1 : World} {base : Nat} {e : TypeId} {v v1 : Value} {l : List (List Int)} {vs : List Sl} {p : Sl} {xs : List Int}
    (h2 : w1.ownsRow base e 1 v1 (l.length + 1) (vs.map slV ++ [slV p])) (h3 : X.grownBy w1 v.ownBlock) (h5 : v1.ownBlock = v.ownBlock ∨ v1.ownBlock = some X.heap.size) (hal : Chg NoB w X)
    (hl : vs.length = l.length) (ho : w.ownsRow base e 1 v l.length (vs.map slV)) (hi : ∀ (i : Nat) (p : Sl) (xs : List Int), vs[i]? = some p → l[i]? = some xs → Pz (fun b => K b ∧ v.ownBlock ≠ some b) w p xs)
    (hs : Pz (fun b => K b ∧ v.ownBlock ≠ some b) w p xs) : Rws K w1 base e v1 (l ++ [xs]) ∧ Chg (fun b => v.ownBlock = some b) w w1 :=
  ⟨Rws.snoc hl (row_keep ho hal) (fun i p xs a b => (hi i p xs a b).chg hal (fun _ _ _ e => e)) (hs.chg hal (fun _ _ _ e => e)) h2 h3 h5, (hal.mono (fun _ _ e => e.elim)).trans (grown_chg h3) (fun _ _ e => e)⟩
/-- A slice literal of one slice. -/
theorem Rrs.one {w : World} {A : Option Addr} {n c : Nat} {xs : List Int} (t : TypeId) (hn : n = xs.length) (hr : Rb w A xs) : Rrs (w.alloc (.cells #[.slice A n c] t)) (some ⟨w.heap.size, 0, none⟩) [(A, n, c)] [xs] :=
  ⟨Rs.one w t A n c, rfl, fun j h h' => by
    have h0 : j = 0 := by simpa using h
    subst h0
    exact ⟨hn, hr.keep ((Chg.refl NoB w).alloc _)⟩⟩
theorem Pz.one {w : World} {base : Nat} {e : TypeId} {A : Option Addr} {n c : Nat} {xs : List Int} (hn : n = xs.length) (ho : Own w base e .u8 (.slice A n c) xs) : Pz (fun _ => True) w (A, n, c) xs := by
  obtain ⟨A', c', e', hc, hr, _⟩ := own_form ho
  injection e' with e1 e2 e3
  subst e1 e3
  refine ⟨hn, hc, hr, fun ad e => ⟨trivial, ?_⟩⟩
  rcases ho.2 with ⟨h, _⟩ | ⟨g, cap, cur, h, _, hg, _⟩
  · injection h with h; rw [show (A, n, c).1 = A from rfl, h] at e; cases e
  · injection h with h
    rw [show (A, n, c).1 = A from rfl, h] at e; injection e with e; subst e
    exact (Array.getElem?_eq_some_iff.1 hg).1
section
variable {P : Program}
/-- x[i:j] of a slice that is told. -/
theorem cut_mid_z (t e : TypeId) (ht : P.underlying t = some (.slice e)) (hsz : (P.info? e).map (·.size) = some 1) (A : Option Addr) (n c : Nat) (i j : Nat) (k1 k2 : IntKind) (q : Nat) (hj : j = i + q) (hjc : j ≤ c) :
    ∃ A', (∀ W : World, (Instr.slice t (.slice A n c) (some (.int k1 (i : Int))) (some (.int k2 (j : Int))) none).run P W = .ok (.slice A' q (c - i)) W) ∧
      ∀ (K : Nat → Prop) (w : World) (xs : List Int), xs.length = n → n ≤ c → j ≤ n → Pz K w (A, n, c) xs → Pz K w (A', q, c - i) ((xs.drop i).take q) := by
  refine ⟨if c = i then A else A.map (·.add i), fun W => ?_, fun K w xs hl hnc hjn hp => ?_⟩
  · have h := run_cut_raw t e ht hsz A n c (i : Int) (j : Int) k1 k2 (by omega) (by omega) (by omega) W
    rw [Int.toNat_natCast, Int.toNat_natCast, show j - i = q from by omega] at h
    exact h
  · refine ⟨by show q = _; rw [List.length_take, List.length_drop]; omega, by show _ ≤ c - i; rw [List.length_take, List.length_drop]; omega, (hp.2.2.1.drop_if i c (by omega)).take_ q, fun ad e => ?_⟩
    have h4 := hp.2.2.2
    by_cases qq : c = i
    · have e' : (if c = i then A else A.map (·.add i)) = some ad := e
      rw [if_pos qq] at e'
      exact h4 ad e'
    · have e' : (if c = i then A else A.map (·.add i)) = some ad := e
      rw [if_neg qq] at e'
      cases A with
      | none => cases e'
      | some a => simp at e'; subst e'; rw [add_block]; exact h4 a rfl
end
end Go.Proofs.Ytnhnfhdbbebclaa.V
