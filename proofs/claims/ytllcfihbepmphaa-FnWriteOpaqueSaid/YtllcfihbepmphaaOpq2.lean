/- The contract of impl.WriteOpaque; the walk of FnWriteOpaque. -/
import Derived.Test.YtllcfihbepmphaaOpq
import Derived.Test.YtllcfihbepmphaaRPacket
import Derived.Test.YtllcfihbepmphaaWHead2
set_option linter.unusedVariables false
set_option linter.unusedSimpArgs false
namespace Go.Proofs.Ytllcfihbepmphaa
open Go.RowKit V
theorem rlen_lenL (n : Nat) (ys : List Int) (hn : n ≤ 4294967295) : rlen (lenL n ++ ys) = ((n : Int), false, ((lenL n).length : Int), 0) := by
  unfold lenL
  by_cases h : n < 192
  · rw [if_pos h]
    have h0 : rd ([(n : Int)] ++ ys) 0 = (n : Int) := by simp [rd]
    unfold rlen
    rw [if_neg (by simp), h0, if_pos (by omega)]
    rfl
  · rw [if_neg h]
    by_cases h2 : n < 8384
    · rw [if_pos h2]
      have hq : ((n - 192 : Nat) : Int) = (n : Int) - 192 := by omega
      rw [hq]
      have h0 : rd ([((n : Int) - 192) / 256 + 192, ((n : Int) - 192) % 256] ++ ys) 0 = ((n : Int) - 192) / 256 + 192 := by simp [rd]
      have h1 : rd ([((n : Int) - 192) / 256 + 192, ((n : Int) - 192) % 256] ++ ys) 1 = ((n : Int) - 192) % 256 := by simp [rd]
      have e : (((n : Int) - 192) / 256 + 192 - 192) * 256 + ((n : Int) - 192) % 256 + 192 = (n : Int) := by omega
      unfold rlen
      rw [if_neg (by simp), h0, if_neg (by omega), if_pos (by omega), if_neg (by simp), h1, e]
      rfl
    · rw [if_neg h2]
      have h0 : rd ([255, (n : Int) / 16777216 % 256, (n : Int) / 65536 % 256, (n : Int) / 256 % 256, (n : Int) % 256] ++ ys) 0 = 255 := by simp [rd]
      have e : numL (([255, (n : Int) / 16777216 % 256, (n : Int) / 65536 % 256, (n : Int) / 256 % 256, (n : Int) % 256] ++ ys).tail.take 4) = (n : Int) := by
        simp [numL]
        omega
      unfold rlen
      rw [if_neg (by simp), h0, if_neg (by omega), if_neg (by omega), if_neg (by omega), if_neg (by simp), e]
      rfl
theorem alloc_size (w : World) (o : Obj) : (w.alloc o).heap.size = w.heap.size + 1 := Array.size_push _
theorem oplen (n : Nat) (g : Int) (ys : List Int) : ([192 + g] ++ lenL n ++ ys).length = 1 + (lenL n).length + ys.length := by simp; omega
set_option maxRecDepth 100000 in
set_option maxHeartbeats 1000000 in
theorem writeOpaque_any (n c : Nat) (tag : Int) (A : Option Addr) (ys : List Int) (w : World) (hn : n = ys.length) (ry : Rb w A ys) (hl : n ≤ 1048576) (ht : 0 ≤ tag) (ht2 : tag < 64) :
    Calls Try.prog 18 #[.agg #[.int .u8 tag, .slice A n c]] w fun e w' => ∃ v, e = .returned v ∧ Ow w' (w.heap.size + 3) 5 .u8 v ([192 + tag] ++ lenL n ++ ys) ∧ Chg NoB w w' := by
  have RY := As.mk ry
  have HN := As.mk hn
  have HOP : As (∀ (w0 : World), Sink w0 (w.heap.size + 3) (w.heap.size + 1) [] → w.heap.size + 3 ≤ w0.heap.size → Blk w0 (w.heap.size + 2) 104 [.int .u8 tag, .nilIface, .slice A n c] → (∀ w', Chg (fun b => b = w.heap.size + 1 ∨ w.heap.size + 3 ≤ b) w0 w' → Rb w' A ys) →
    Calls Try.prog 31 #[.pointer (some ⟨w.heap.size + 2, 0, none⟩), .iface 97 (.pointer (some ⟨w.heap.size + 1, 0, none⟩))] w0 (WroteOk w0 (w.heap.size + 3) (w.heap.size + 1) ([192 + tag] ++ lenL n ++ ys))) :=
    ⟨fun w0 h1 h2 h3 h4 => opaqueSerialize_any (w.heap.size + 3) (w.heap.size + 1) (w.heap.size + 2) n c tag A [] ys w0 h1 (by omega) (by omega) (by omega) h2 h3 hn h4 (by simp) hl ht ht2⟩
  generalize [192 + tag] ++ lenL n ++ ys = L at HOP ⊢
  clear ry hn
  go_enter Try.func18, Try.ntmps18
  go_wp2_with fail
  have B1 : As (∀ o, Blk (((w.alloc (.cells #[.int .u8 tag, .slice A n c] 63)).alloc (.cells #[.slice none 0 0] 99)).alloc o) (w.heap.size + 1) 99 [.slice none 0 0]) := ⟨fun o => by
    have h := Blk.new (w.alloc (.cells #[.int .u8 tag, .slice A n c] 63)) 99 [.slice none 0 0]
    rw [alloc_size] at h
    exact h.alloc o⟩
  refine (HOP.out _ ⟨_, B1.out _, ow_empty _ _ _ _ _⟩ ?_ ?_ ?_).mono ?_
  · simp
  · have h := Blk.new ((w.alloc (.cells #[.int .u8 tag, .slice A n c] 63)).alloc (.cells #[.slice none 0 0] 99)) 104 [.int .u8 tag, .nilIface, .slice A n c]
    rw [alloc_size, alloc_size] at h
    exact h
  · intro w' hc
    exact RY.out.keep (((((Chg.refl NoB w).alloc _).alloc _).alloc _).trans hc (fun i hi e => by rcases e with e | e <;> omega))
  rintro e w1 ⟨rfl, ⟨v, hbk, ho⟩, hc1⟩
  obtain ⟨A1, c1, rfl, _, _⟩ := ow_form ho
  generalize hm : L.length = m at hbk ho
  have c0 := hbk.cell 0
  simp only [List.getElem?_cons_zero] at c0
  have HO := As.mk ho
  have HC : As (Chg NoB w w1) := ⟨((((Chg.refl NoB w).alloc _).alloc _).alloc _).trans hc1 (fun i hi e => by rcases e with e | e <;> omega)⟩
  clear hbk ho hc1 hm B1
  go_wp2_with fail
  go_ret
  exact ⟨_, rfl, HO.out, HC.out⟩
end Go.Proofs.Ytllcfihbepmphaa
