/- The contracts of crypto/subtle.XORBytes and of what it calls. -/
import Derived.Test.YthbgpbaneghmdaaXorB
set_option linter.unusedVariables false
set_option linter.unusedSimpArgs false
namespace Go.Proofs.Ythbgpbaneghmdaa
open Go.RowKit V
theorem run_sizeOf {P : Program} {t : TypeId} {i : TypeInfo} (h : P.info? t = some i) (w : World) : (Go.sizeOf t).run P w = .ok i.size w := by
  simp [Go.sizeOf, typeInfo, h]
theorem sizeOf8 (w : World) : (Go.sizeOf 5).run Try.prog w = .ok 1 w := by
  have h : Try.prog.info? 5 = some ((Try.prog.info? 5).getD default) := by kernel_rfl
  have h2 : ((Try.prog.info? 5).getD default).size = 1 := by kernel_rfl
  exact (run_sizeOf h w).trans (by rw [h2])
theorem anyOverlap_run (a b : Addr) (la ca lb cb : Nat) (w : World) (r : Value) (h : (Extern.SlicesOverlaps.overlaps #[22, 22] #[4] #[.slice (some a) la ca, .slice (some b) lb cb]).run Try.prog w = .ok r w) :
    (callFunc 128 #[.slice (some a) la ca, .slice (some b) lb cb]).run Try.prog w = .ok (.value r) w := by
  rw [run_callFunc_extern (e := Extern.SlicesOverlaps.overlaps #[22, 22] #[4]) Try.func128 (by kernel_rfl) (by kernel_rfl) (by kernel_rfl) (by kernel_rfl), h]
  rfl
theorem xorBytes_run (a b c : Addr) (n : Int) (w w1 : World) (h : (Extern.CryptoHooks.xorBytes #[.pointer (some a), .pointer (some b), .pointer (some c), .int .i64 n]).run Try.prog w = .ok (.tuple #[]) w1) :
    (callFunc 127 #[.pointer (some a), .pointer (some b), .pointer (some c), .int .i64 n]).run Try.prog w = .ok (.value (.tuple #[])) w1 := by
  rw [run_callFunc_extern (e := Extern.CryptoHooks.xorBytes) Try.func127 (by kernel_rfl) (by kernel_rfl) (by kernel_rfl) (by kernel_rfl), h]
  rfl
theorem sameAddr_same_block (w : World) {a b : Addr} (h : a.block = b.block) : (sameAddr a b).run Try.prog w = .ok (a == b) w := by
  simp [sameAddr, h]
/-- Two slices of n bytes that are apart, or the same: as the model sees it. -/
theorem apart_facts {g off n cd cx base N cap : Nat} {zs : List Int} {X : Addr} {xv : Value} {w : World} (HO : Own w base 5 .u8 (.slice (some ⟨g, 0, none⟩) N cap) zs) (hx : w.cell? X = some xv) (hs : Sep g off n X) :
    (binOp .eql 153 (.pointer (some ⟨g, off, none⟩)) (.pointer (some X))).run Try.prog w = .ok (.bool (decide (X = ⟨g, off, none⟩))) w ∧
    (X ≠ ⟨g, off, none⟩ → ∀ m, (callFunc 128 #[.slice (some ⟨g, off, none⟩) n cd, .slice (some X) n cx]).run Try.prog (w.drewN m) = .ok (.value (.bool false)) (w.drewN m)) := by
  obtain ⟨cur, hg⟩ := own_plain HO
  have hi : Try.prog.info? 5 = some ((Try.prog.info? 5).getD default) := by kernel_rfl
  have hz : ((Try.prog.info? 5).getD default).size ≠ 0 := by
    have h2 : ((Try.prog.info? 5).getD default).size = 1 := by kernel_rfl
    omega
  obtain ⟨t, k, hs1, hk, hsp⟩ := Sep.shape hx
  constructor
  · refine run_eql_ptr (i := (Try.prog.info? 5).getD default) w _ _ _ Try.underlying153 hi hz ?_
    clear hi hz
    by_cases hb : X.block = g
    · have e : (sameAddr (⟨g, off, none⟩ : Addr) X).run Try.prog w = .ok ((⟨g, off, none⟩ : Addr) == X) w := by
        simp [sameAddr, hb]
      rw [e]
      congr 1
      by_cases h : X = ⟨g, off, none⟩
      · subst h; simp
      · have h' : ¬ (⟨g, off, none⟩ : Addr) = X := fun e => h e.symm
        simp [h, h']
    · rw [run_sameAddr_apart w (a := ⟨g, off, none⟩) (cur := cur) (e := 5) hg hx (fun e => hb e.symm)]
      rw [decide_eq_false (fun e => hb (by rw [e]))]
  · intro hne m
    refine anyOverlap_run _ _ _ _ _ _ _ _ ?_
    rcases hs with hb | he | ⟨_, ho⟩
    · exact Lib.run_overlaps_apart (w.drewN m) _ _ _ Try.underlying22 1 sizeOf8 _ _ _ _ _ _ (fun e => hb e.symm) 5 t cur.size k (by simp [World.shape?, hg]) hs1 hk (by simp [World.frozen?, hg]) (by simp [World.frozen?, hg])
    · exact absurd he hne
    · by_cases hb : X.block = g
      · exact run_overlaps_same (w.drewN m) _ _ _ Try.underlying22 sizeOf8 _ _ _ _ _ _ hb.symm (by rcases ho with h | h; exact .inr h; exact .inl h)
      · exact Lib.run_overlaps_apart (w.drewN m) _ _ _ Try.underlying22 1 sizeOf8 _ _ _ _ _ _ (fun e => hb e.symm) 5 t cur.size k (by simp [World.shape?, hg]) hs1 hk (by simp [World.frozen?, hg]) (by simp [World.frozen?, hg])
set_option maxHeartbeats 1000000 in
theorem inexact_no {g off n cd cx base N cap : Nat} {zs : List Int} {X : Addr} {xv : Value} {w : World} (HO : Own w base 5 .u8 (.slice (some ⟨g, 0, none⟩) N cap) zs) (hx : w.cell? X = some xv) (hs : Sep g off n X) (hn : 1 ≤ n) :
    Calls Try.prog 126 #[.slice (some ⟨g, off, none⟩) n cd, .slice (some X) n cx] w fun e w' => e = .returned (.bool false) ∧ ∃ m, w' = w.drewN m := by
  have h1 := fun m : Nat => (apart_facts (w := w.drewN m) (cd := cd) (cx := cx) HO hx hs).1
  have h2 := (apart_facts (cd := cd) (cx := cx) HO hx hs).2
  have hb : (((n : Nat) : Int) == 0) = false := by simp; omega
  have a0 : (⟨g, off, none⟩ : Addr).add 0 = ⟨g, off, none⟩ := by simp [Addr.add]
  have a1 : X.add 0 = X := by simp [Addr.add]
  have hn0 : (0 : Int) < (n : Int) := by omega
  have hn2 : ¬ n = 0 := by omega
  have hlt : 0 < n := by omega
  clear hs HO hx hn
  by_cases he : X = ⟨g, off, none⟩
  · have hd : decide (X = ⟨g, off, none⟩) = true := decide_eq_true he
    rw [hd] at h1
    clear h2 he hd
    go_enter Try.func126, Try.ntmps126
    go_wp2
    go_quiet (fail)
    go_wp2
    go_ret
    exact ⟨rfl, nq, rfl⟩
  · have hd : decide (X = ⟨g, off, none⟩) = false := decide_eq_false he
    rw [hd] at h1
    have h3 := h2 he
    clear h2 he hd
    go_enter Try.func126, Try.ntmps126
    go_wp2
    go_quiet (fail)
    have h4 := h3 nq
    clear h3
    go_wp2
    go_ret
    exact ⟨rfl, nq, rfl⟩
end Go.Proofs.Ythbgpbaneghmdaa
