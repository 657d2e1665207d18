/- crypto/subtle.XORBytes, for which the model stands in at its root: the exclusive or of two rows into a part of a row of the call's own. -/
import Derived.Test.YthbgpbaneghmdaaBase
import Derived.Test.YthbgpbaneghmdaaV3
import Derived.Test.YthbgpbaneghmdaaPure
import Derived.Laws.Externs
import Derived.Lib.Overlaps
import Derived.LaidEql
import Derived.Laws.LoneSync
set_option linter.unusedVariables false
set_option linter.unusedSimpArgs false
namespace Go.Proofs.Ythbgpbaneghmdaa.V
open Go.RowKit
def xorZ (xs ys : List Int) : List Int := List.zipWith (Go.bits .xor .u8) xs ys
theorem xorZ_length (xs ys : List Int) : (xorZ xs ys).length = min xs.length ys.length := by simp [xorZ]
section
variable {P : Program}
theorem own_stored {et : TypeId} (w : World) (base : Nat) (k : IntKind) (g cap : Nat) (xs : List Int) (HO : Own w base et k (.slice (some ⟨g, 0, none⟩) xs.length cap) xs) (off : Nat) (ys : List Int) (hoff : off + ys.length ≤ xs.length) :
    ∃ w1, (storeCells ⟨g, off, none⟩ (nums k ys)).run P w = .ok () w1 ∧ Own w1 base et k (.slice (some ⟨g, 0, none⟩) xs.length cap) (splice xs off ys) ∧ w.grownBy w1 (some g) := by
  rcases HO.2 with ⟨h', _⟩ | ⟨g', cap', cur, h', hb, hg, hnc, hcm, hcs, htake⟩
  · simp at h'
  · simp only [Value.slice.injEq, Option.some.injEq, Addr.mk.injEq, and_true, true_and] at h'
    obtain ⟨rfl, rfl⟩ := h'
    have hcs' : cur.size = cap := by simpa using hcs
    have hr := run_storeCells_at P g off et (nums k ys) 0 cur w hg (by rw [nums_length, hcs']; omega) (nums_one _ _)
    have hpl : (splice xs off ys).length = xs.length := length_splice _ _ _ hoff
    refine ⟨_, hr, ⟨by rw [nums_length]; simp [hpl], .inr ⟨g, cap, _, by rw [hpl], hb, setRow_heap w g cur _ et _ hg, by rw [hpl]; exact hnc, hcm, ?_, ?_⟩⟩, ⟨rfl, rfl, rfl, by simp [World.setRow], fun q _ hq => setRow_other w g q _ (fun e => hq (by simp [e]))⟩⟩
    · simp only [List.size_toArray, List.length_append, List.length_take, List.length_drop, Array.length_toList, nums_length]
      omega
    · simp only [Nat.mul_one, Nat.add_zero] at htake ⊢
      rw [hpl, nums_splice]
      have hx : cur.toList = nums k xs ++ cur.toList.drop xs.length := by rw [← htake, List.take_append_drop]
      have hm : off + (nums k ys).length ≤ (nums k xs).length := by rw [nums_length, nums_length]; exact hoff
      have hs := splice_take (nums k xs) (cur.toList.drop xs.length) (nums k ys) off hm
      rw [hx]
      simp only [nums_length] at hs ⊢
      exact hs
def xorOne (p : Value × Value) : Sem Value := do pure (Value.int .u8 (Int.ofNat ((← asInt p.1).toNat ^^^ (← asInt p.2).toNat)))
theorem run_zipXor (w : World) : ∀ (xs ys : List Int), Byt xs → Byt ys →
    (((nums .u8 xs).zip (nums .u8 ys)).mapM xorOne).run P w = .ok (nums .u8 (xorZ xs ys)) w
  | [], ys, _, _ => by simp [nums, xorZ]
  | x :: xs, [], _, _ => by simp [nums, xorZ]
  | x :: xs, y :: ys, hx, hy => by
    have ih := run_zipXor w xs ys (fun a h => hx a (List.mem_cons_of_mem _ h)) (fun a h => hy a (List.mem_cons_of_mem _ h))
    have h1 := hx x (List.mem_cons_self ..)
    have h2 := hy y (List.mem_cons_self ..)
    have hv : Go.bits .xor .u8 x y = ((x.toNat ^^^ y.toNat : Nat) : Int) := u8_xor x y (by omega) (by omega) (by omega) (by omega)
    have e : (xorOne (Value.int .u8 x, Value.int .u8 y)).run P w = .ok (Value.int .u8 (Go.bits .xor .u8 x y)) w := by
      simp [xorOne, asInt, asIntOf, hv]
    simp only [nums, List.map_cons, List.zip_cons_cons, List.mapM_cons, Sem.run_bind] at ih ⊢
    rw [e]
    simp [ih, xorZ]
theorem run_xorBytes_own {et : TypeId} (w : World) (base : Nat) (g cap : Nat) (zs : List Int) (HO : Own w base et .u8 (.slice (some ⟨g, 0, none⟩) zs.length cap) zs) (off n : Nat) (hoff : off + n ≤ zs.length)
    (X Y : Addr) (xs ys : List Int) (hx : Rb w (some X) xs) (hy : Rb w (some Y) ys) (bx : Byt xs) (by_ : Byt ys) (hnx : n ≤ xs.length) (hny : n ≤ ys.length) :
    ∃ w1, (Extern.CryptoHooks.xorBytes #[.pointer (some ⟨g, off, none⟩), .pointer (some X), .pointer (some Y), .int .i64 n]).run P w = .ok (.tuple #[]) w1 ∧
      Own w1 base et .u8 (.slice (some ⟨g, 0, none⟩) zs.length cap) (splice zs off (xorZ (xs.take n) (ys.take n))) ∧ w.grownBy w1 (some g) := by
  have lx : (nums .u8 (xs.take n)).length = n := by rw [nums_length, List.length_take]; omega
  have ly : (nums .u8 (ys.take n)).length = n := by rw [nums_length, List.length_take]; omega
  have e1 := run_loadCells_list (P := P) w X (nums .u8 (xs.take n)) ((hx.take_ n).news rfl)
  have e2 := run_loadCells_list (P := P) w Y (nums .u8 (ys.take n)) ((hy.take_ n).news rfl)
  rw [lx] at e1
  rw [ly] at e2
  have e3 := run_zipXor (P := P) w (xs.take n) (ys.take n) (bx.take n) (by_.take n)
  obtain ⟨w1, e4, ho, hg⟩ := own_stored (P := P) w base .u8 g cap zs HO off (xorZ (xs.take n) (ys.take n)) (by rw [xorZ_length, List.length_take, List.length_take]; omega)
  refine ⟨w1, ?_, ho, hg⟩
  change (Sem.run P (do
    let n := (← asInt (.int .i64 (n : Int))).toNat
    let xs ← loadCells (← asAddr (.pointer (some X))) n
    let ys ← loadCells (← asAddr (.pointer (some Y))) n
    let out ← (xs.zip ys).mapM xorOne
    storeCells (← asAddr (.pointer (some ⟨g, off, none⟩))) out.toList
    pure (Value.tuple #[])) w) = _
  simp only [asInt, asAddr, Sem.run_bind, Sem.run_pure, Result.andThen_ok, Int.toNat_natCast, e1, e2, Array.mapM_eq_mapM_toList, Array.toList_zip]
  simp [asIntOf, e1, e2, e3, e4]
/-- Where a row lies that goes into one with another part of a row of the call's own: in another block, exactly there, or beside it. -/
def Sep (g off n : Nat) (X : Addr) : Prop := X.block ≠ g ∨ X = ⟨g, off, none⟩ ∨ (X.spot = none ∧ (X.off + n ≤ off ∨ off + n ≤ X.off))
theorem Sep.shape {w : World} {X : Addr} {v : Value} (h : w.cell? X = some v) : ∃ t k, w.shape? X.block = some (t, k) ∧ k ≠ 0 ∧ X.spot = none := by
  obtain ⟨t, k, h1, h2, h3⟩ := World.shape?_of_cell? h
  exact ⟨t, k, h1, by omega, h3⟩
theorem own_plain {w : World} {base g n cap : Nat} {e : TypeId} {k : IntKind} {xs : List Int} (h : Own w base e k (.slice (some ⟨g, 0, none⟩) n cap) xs) : ∃ cur : Array Value, w.heap[g]? = some (.cells cur e (0, 0)) := by
  rcases h.2 with ⟨h', _⟩ | ⟨g', cap', cur, h', hb, hg, _⟩
  · simp at h'
  · simp only [Value.slice.injEq, Option.some.injEq, Addr.mk.injEq, and_true, true_and] at h'
    obtain ⟨rfl, _⟩ := h'
    exact ⟨cur, hg⟩
/-- &x[0] == &y[0] where they lie in two blocks, the first of them plain. -/
theorem run_sameAddr_apart (w : World) {a b : Addr} {cur : Array Value} {e : TypeId} (ha : w.heap[a.block]? = some (.cells cur e (0, 0))) {v : Value} (hb : w.cell? b = some v) (hne : a.block ≠ b.block) :
    (sameAddr a b).run P w = .ok false w := by
  obtain ⟨t, k, h1, h2, h3⟩ := Sep.shape hb
  have hnb : (a.block == b.block) = false := by simpa using hne
  have hfa : w.frozen? a = false := by simp [World.frozen?, ha]
  have hsa : w.shape? a.block = some (e, cur.size) := by simp [World.shape?, ha]
  have hfe : w.frozen? { block := a.block, off := cur.size } = false := by simp [World.frozen?, ha]
  cases k with
  | zero => exact absurd rfl h2
  | succ k => simp [sameAddr, hne, frozen, noView, viewAt, mayBeOne, stringish, shape, Sem.run, hfa, hsa, hfe, h1]
theorem run_eql_ptr (w : World) {tp te : TypeId} {i j : TypeInfo} (a b : Addr) (r : Bool) (hp : P.underlying tp = some (.pointer te)) (hte : P.info? te = some j) (hsz : j.size ≠ 0) (h : (sameAddr a b).run P w = .ok r w) :
    (binOp .eql tp (.pointer (some a)) (.pointer (some b))).run P w = .ok (.bool r) w := by
  have h2 : ∀ d : Nat, (Op.equalIn (d + 1) tp (.pointer (some a)) (.pointer (some b))).run P w = .ok r w := fun d => by
    simp [Op.equalIn, run_underlying hp, sizeOf, typeInfo, hte, hsz, h]
  simp only [binOp]
  simp [Op.equal, Op.maxDepth, h2 9999]
theorem run_overlaps_same (w : World) (tS tR e : TypeId) (ht : P.underlying tS = some (.slice e)) (hz : ∀ w, (Go.sizeOf e).run P w = .ok 1 w)
    (a b : Addr) (la ca lb cb : Nat) (he : a.block = b.block) (hno : a.off + la ≤ b.off ∨ b.off + lb ≤ a.off) :
    (Extern.SlicesOverlaps.overlaps #[tS, tS] #[tR] #[.slice (some a) la ca, .slice (some b) lb cb]).run P w = .ok (.bool false) w := by
  have hnb : (a.block != b.block) = false := by simpa using he
  change Sem.run P (α := Value) (do
    let some t := (#[tS, tS] : Array TypeId)[0]? | stuck "slices.overlaps: no parameter types"
    let .slice elem ← underlying t | stuck "slices.overlaps: slice type expected"
    let size ← sizeOf elem
    match (some a : Option Addr), (some b : Option Addr) with
    | some a, some b =>
      if la = 0 ∨ lb = 0 ∨ size = 0 then pure (Value.bool false)
      else if a.block != b.block && (← frozen a) && (← frozen b) then unsupported .addressObserved
      else do
        if a.block != b.block then do
          noView a; noView b
          if ← mayBeOne a b then return Value.bool ((← choose (.extern "sameAddr.stringBytes" 2)) == 1)
        pure (Value.bool (a.block == b.block && a.off < b.off + lb * size && b.off < a.off + la * size))
    | _, _ => pure (Value.bool false)) w = _
  by_cases h0 : la = 0 ∨ lb = 0
  · simp [run_underlying ht, hz, h0]
  · have hnot : ¬ (a.off < b.off + lb * 1 ∧ b.off < a.off + la * 1) := by omega
    have hd : (a.block == b.block && decide (a.off < b.off + lb * 1) && decide (b.off < a.off + la * 1)) = false := by
      simp only [Bool.and_eq_false_iff, decide_eq_false_iff_not, Nat.not_lt]
      omega
    simp only [Nat.mul_one] at hd
    simp [run_underlying ht, hz, h0, hnb, hd, frozen, Sem.run]
end
end Go.Proofs.Ythbgpbaneghmdaa.V
