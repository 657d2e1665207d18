/- The contracts of io.LimitReader, io.Copy and io.CopyN from a source to a writer that takes all; the two writers. -/
import Derived.Test.YtalbaapbiopamaaDoorCopyB
import Derived.Test.YtalbaapbiopamaaDoorWHeadS
import Derived.Test.YtalbaapbiopamaaDoorSink
set_option linter.unusedVariables false
set_option linter.unusedSimpArgs false
namespace Go.Proofs.YtalbaapbiopamaaDoor
open Go.RowKit V
set_option maxRecDepth 100000 in
set_option maxHeartbeats 1000000 in
theorem copy_any (T : TypeId) (v : Value) (fW : FuncId) (recv : Value) (base g s n : Nat) (xs : List Int) (sp : Int) (D : Nat → World → Prop) (w : World) (a0 a1 : Addr) (hS : Sent w a0 a1) (hB : 0 < base ∧ 1 < base ∧ a0.block < base ∧ a1.block < base)
    (hT : Taker T v fW recv base g s w.heap.size xs D) (hD : ∀ w', Chg NoB w w' → D 0 w') (hl : Lim w g s n) (hs : Src w base s xs sp) (hn : n ≤ 1048576) (hx : xs.length ≤ 2097152) (hgs : g ≠ s) (hbg : base ≤ g) (hbs : base ≤ s) :
    Calls Tryd.prog 18 #[.iface T v, .iface 76 (.pointer (some ⟨g, 0, none⟩))] w fun e w' => e = .returned (.tuple #[.int .i64 (min n xs.length : Nat), .nilIface]) ∧ D (min n xs.length) w' ∧ Src w' base s (xs.drop (min n xs.length)) sp ∧ Chg (fun b => base ≤ b) w w' := by
  have H := As.mk (copyBuffer_any T v fW recv base g s n xs sp D w a0 a1 hS hB hT hD hl hs hn hx hgs hbg hbs)
  clear hS hB hT hD hl hs
  generalize min n xs.length = q at *
  go_enter Tryd.func18, Tryd.ntmps18
  go_wp2_with fail
  refine H.out.mono ?_
  rintro e w1 ⟨rfl, h1, h2, h3⟩
  have H1 := As.mk (And.intro h1 (And.intro h2 h3))
  clear h1 h2 h3 H
  go_wp2_with fail
  go_ret2
  exact ⟨rfl, H1.out⟩
set_option maxRecDepth 100000 in
set_option maxHeartbeats 1000000 in
theorem limitReader_any (s n : Nat) (w : World) :
    Calls Tryd.prog 19 #[.iface 34 (.pointer (some ⟨s, 0, none⟩)), .int .i64 n] w fun e w' => ∃ g, e = .returned (.iface 76 (.pointer (some ⟨g, 0, none⟩))) ∧ w.heap.size ≤ g ∧ Lim w' g s n ∧ Chg NoB w w' := by
  go_enter Tryd.func19, Tryd.ntmps19
  go_wp2_with fail
  go_ret
  exact ⟨_, rfl, Nat.le_refl _, Blk.new w _ [.iface 34 (.pointer (some ⟨s, 0, none⟩)), .int .i64 n], (Chg.refl _ _).alloc _⟩
/-- What a copy of so many bytes leaves: all of them, or an error. -/
def CopiedN (base s n : Nat) (xs : List Int) (sp : Int) (D : Nat → Nat → Nat → World → Prop) (a0 : Addr) (w : World) (e : Ending) (w' : World) : Prop :=
  (∃ er, e = .returned (.tuple #[.int .i64 (min n xs.length : Nat), er]) ∧ er = (if n ≤ xs.length then .nilIface else .iface 88 (.pointer (some a0)))) ∧ (∃ g B, D g B (min n xs.length) w') ∧ Src w' base s (xs.drop (min n xs.length)) sp ∧ Chg (fun b => base ≤ b) w w'
set_option maxRecDepth 100000 in
set_option maxHeartbeats 1000000 in
theorem copyN_any (T : TypeId) (v : Value) (fW : FuncId) (recv : Value) (base s n : Nat) (xs : List Int) (sp : Int) (D : Nat → Nat → Nat → World → Prop) (w : World) (a0 a1 : Addr) (hS : Sent w a0 a1) (hB : 0 < base ∧ 1 < base ∧ a0.block < base ∧ a1.block < base)
    (hT : ∀ g B, w.heap.size ≤ g → w.heap.size ≤ B → g ≠ B → Taker T v fW recv base g s B xs (D g B)) (hD : ∀ g B w', w.heap.size ≤ g → w.heap.size ≤ B → g < w'.heap.size → g ≠ B → Chg NoB w w' → D g B 0 w') (hs : Src w base s xs sp) (hn : n ≤ 1048576) (hx : xs.length ≤ 2097152) (hbs : base ≤ s) (hbw : base ≤ w.heap.size) :
    Calls Tryd.prog 14 #[.iface T v, .iface 34 (.pointer (some ⟨s, 0, none⟩)), .int .i64 n] w (CopiedN base s n xs sp D a0 w) := by
  have HS := As.mk hs
  have HT := As.mk hT
  have HD := As.mk hD
  have HSE := As.mk hS
  have HGB := As.mk hB
  have hslt : s < w.heap.size := by obtain ⟨_, _, hb, _⟩ := hs; exact hb.lt
  clear hS hB hT hD hs
  go_enter Tryd.func14, Tryd.ntmps14
  go_wp2_with fail
  refine (limitReader_any s n _).mono ?_
  rintro e w1 ⟨g, rfl, hgw, hl1, hc1⟩
  have HL1 := As.mk hl1
  have HC1 := As.mk hc1
  have hgl := hl1.lt
  have hgs : g ≠ s := by omega
  have hz := hc1.size
  clear hl1 hc1
  go_wp2_with fail
  refine (copy_any T v fW recv base g s n xs sp (D g w1.heap.size) _ a0 a1 (HSE.out.keep HC1.out) HGB.out (HT.out g w1.heap.size hgw hz (by omega)) (fun w' h => HD.out g w1.heap.size w' hgw hz (Nat.lt_of_lt_of_le hgl h.size) (by omega) (HC1.out.trans h (fun _ _ e => e))) HL1.out (HS.out.keep HC1.out) hn hx hgs (by omega) hbs).mono ?_
  rintro e w2 ⟨rfl, hd2, hs2, hc2⟩
  have HC2 : As (Chg (fun b => base ≤ b) w w2) := ⟨(HC1.out.mono (fun _ _ e => e.elim)).trans hc2 (fun _ _ e => e)⟩
  have HX := As.mk (And.intro (show ∃ g B, D g B (min n xs.length) w2 from ⟨g, w1.heap.size, hd2⟩) (And.intro hs2 HC2.out))
  have g0 := (HSE.out.chg HGB.out HC2.out (fun i hi e => by omega)).1
  clear hd2 hs2 hc2 HT HD HS
  by_cases hle : n ≤ xs.length
  · have hmn : min n xs.length = n := by omega
    have HMN := As.mk hmn
    have HLE := As.mk hle
    rw [hmn]
    clear hmn hle
    go_wp2_with fail
    go_ret2
    exact ⟨⟨.nilIface, by rw [HMN.out]; rfl, by rw [if_pos HLE.out]⟩, HX.out⟩
  · have hmn : min n xs.length = xs.length := by omega
    obtain ⟨q, hq⟩ : ∃ q, q = xs.length := ⟨_, rfl⟩
    have HMN : As (min n xs.length = q) := ⟨by omega⟩
    have HLE := As.mk hle
    have hqn : (q : Int) < (n : Int) := by omega
    have hqn2 : ((q : Int) == (n : Int)) = false := by simp; omega
    rw [HMN.out]
    clear hmn hle
    go_wp2_with fail
    go_ret2
    exact ⟨⟨.iface 88 (.pointer (some a0)), by rw [HMN.out, hq]; rfl, by rw [if_neg HLE.out]⟩, HX.out⟩
end Go.Proofs.YtalbaapbiopamaaDoor
