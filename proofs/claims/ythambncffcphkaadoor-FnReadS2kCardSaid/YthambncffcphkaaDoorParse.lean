/- The contract of s2k.ParseIntoParams over a source. (Printed by wip/parse.py.) -/
import Derived.Test.YthambncffcphkaaDoorReadPart2
import Derived.Test.YthambncffcphkaaDoorParams
import Derived.Deep.RegionHeld3
import Derived.Deep.DeepCutAuto
set_option linter.unusedVariables false
set_option linter.unusedSimpArgs false
namespace Go.Proofs.YthambncffcphkaaDoor
open Go.RowKit V
/-- What ParseIntoParams answers: the parameters lie in a block of their own. -/
def ParsedOf (w : World) (base s : Nat) (ps rest : List Int) (sp : Int) (e : Ending) (w' : World) : Prop :=
  Chg (fun b => b = s) w w' ∧ ∃ g : Nat, e = .returned (.tuple #[.pointer (some ⟨g, 0, none⟩), .nilIface]) ∧ w.heap.size ≤ g ∧ Own w' base 85 .u8 (.slice (some ⟨g, 0, none⟩) 22 22) ps ∧ Src w' base s rest sp
/-- .. or an error. -/
def ParseErr (w : World) (s : Nat) (a0 a1 : Addr) (e : Ending) (w' : World) : Prop :=
  Chg (fun b => b = s) w w' ∧ ∃ (v er : Value), e = .returned (.tuple #[v, er]) ∧ (er = .iface 95 (.pointer (some a0)) ∨ er = .iface 95 (.pointer (some a1)) ∨ ∃ t : ByteArray, er = .iface 72 (.string t))
theorem rd_lit (l : List Int) (i : Nat) : rd l (i : Int) = l.getD i 0 := by unfold rd; rw [Int.toNat_natCast]
set_option maxRecDepth 100000 in
set_option maxHeartbeats 2000000 in
theorem parse_none (base s : Nat) (sp : Int) (w : World) (a0 a1 : Addr) (hS : Sent w a0 a1) (hB : 0 < base ∧ 1 < base ∧ a0.block < base ∧ a1.block < base) (hbs : base ≤ s) (hs : Src w base s [] sp) : Calls Tryd.prog 19 #[.iface 58 (.pointer (some ⟨s, 0, none⟩))] w (ParseErr w s a0 a1) := by
  have hxl : ([] : List Int).length ≤ 2097152 := by simp
  have HS := As.mk hS
  have HB := As.mk hB
  have HSR := As.mk hs
  have HXL : As (([] : List Int).length ≤ 2097152) := ⟨hxl⟩
  have hsl : s < w.heap.size := by obtain ⟨A, c, hb, _⟩ := hs; exact hb.lt
  clear hS hB hs hxl
  go_enter Tryd.func19, Tryd.ntmps19
  go_wp2_with fail
  have hc0 : Chg NoB w (w.alloc (.cells (nums .u8 [0, 0, 0, 0, 0, 0, 0, 0, 0, 0, 0, 0, 0, 0, 0, 0, 0, 0, 0]).toArray 79)) := (Chg.refl NoB w).alloc _
  refine (readPart_any 79 base s w.heap.size 19 19 19 1 ([]) [0, 0, 0, 0, 0, 0, 0, 0, 0, 0, 0, 0, 0, 0, 0, 0, 0, 0, 0] sp _ a0 a1 (HS.out.keep hc0) HB.out (HSR.out.keep hc0) (own_lit w base 79 .u8 [0, 0, 0, 0, 0, 0, 0, 0, 0, 0, 0, 0, 0, 0, 0, 0, 0, 0, 0] (by omega) (by simp [maxLen])) rfl (by omega) (by omega) hbs (by omega) (by omega) HXL.out (by omega)).mono ?_
  rintro e w1 ⟨hc1, hm1⟩
  have HCA : As (Chg (fun b => b = s) w w1) := ⟨(hc0.mono (fun _ _ e => e.elim)).trans hc1 (fun i hi e => by rcases e with e | e <;> omega)⟩
  rcases hm1 with ⟨hbad, _⟩ | ⟨_, he⟩
  · simp at hbad
  · subst he
    clear hc0 hc1
    go_wp2_with fail
    go_ret2
    exact ⟨HCA.out, _, _, rfl, .inl rfl⟩
set_option maxRecDepth 100000 in
set_option maxHeartbeats 2000000 in
theorem parse_other (base s : Nat) (sp : Int) (w : World) (a0 a1 : Addr) (hS : Sent w a0 a1) (hB : 0 < base ∧ 1 < base ∧ a0.block < base ∧ a1.block < base) (hbs : base ≤ s) (x0 : Int) (rest : List Int) (hs : Src w base s (x0 :: rest) sp) (hxl : (x0 :: rest).length ≤ 2097152) (h0 : x0 ≠ 0) (h1 : x0 ≠ 1) (h3 : x0 ≠ 3) (h4 : x0 ≠ 4) (h5 : x0 ≠ 101) (hb0 : 0 ≤ x0) (hb1 : x0 ≤ 255) :
    Calls Tryd.prog 19 #[.iface 58 (.pointer (some ⟨s, 0, none⟩))] w (ParseErr w s a0 a1) := by
  have b0 : (x0 == 0) = false := by simpa using h0
  have b1 : (x0 == 1) = false := by simpa using h1
  have b3 : (x0 == 3) = false := by simpa using h3
  have b4 : (x0 == 4) = false := by simpa using h4
  have b5 : (x0 == 101) = false := by simpa using h5
  clear h0 h1 h3 h4 h5
  have HS := As.mk hS
  have HB := As.mk hB
  have HSR := As.mk hs
  have HXL : As ((x0 :: rest : List Int).length ≤ 2097152) := ⟨hxl⟩
  have hsl : s < w.heap.size := by obtain ⟨A, c, hb, _⟩ := hs; exact hb.lt
  clear hS hB hs hxl
  go_enter Tryd.func19, Tryd.ntmps19
  go_wp2_with fail
  have hc0 : Chg NoB w (w.alloc (.cells (nums .u8 [0, 0, 0, 0, 0, 0, 0, 0, 0, 0, 0, 0, 0, 0, 0, 0, 0, 0, 0]).toArray 79)) := (Chg.refl NoB w).alloc _
  refine (readPart_any 79 base s w.heap.size 19 19 19 1 (x0 :: rest) [0, 0, 0, 0, 0, 0, 0, 0, 0, 0, 0, 0, 0, 0, 0, 0, 0, 0, 0] sp _ a0 a1 (HS.out.keep hc0) HB.out (HSR.out.keep hc0) (own_lit w base 79 .u8 [0, 0, 0, 0, 0, 0, 0, 0, 0, 0, 0, 0, 0, 0, 0, 0, 0, 0, 0] (by omega) (by simp [maxLen])) rfl (by omega) (by omega) hbs (by omega) (by omega) HXL.out (by omega)).mono ?_
  rintro e w1 ⟨hc1, hm1⟩
  have hcA : Chg (fun b => b = s) w w1 := (hc0.mono (fun _ _ e => e.elim)).trans hc1 (fun i hi e => by rcases e with e | e <;> omega)
  rcases hm1 with ⟨_, rfl, h3, h4⟩ | ⟨hbad, _⟩
  rotate_left
  · simp at hbad
  have hgl : w.heap.size < w1.heap.size := Nat.lt_of_lt_of_le (by simp) hc1.size
  obtain ⟨k0, f0⟩ := own_at h4 0 (by simp)
  simp [rd] at k0
  have HSR1 := As.mk h3
  have HO1 := As.mk h4
  have HCA := As.mk hcA
  clear hc0 hc1 hcA h3 h4
  go_wp2_with fail
  go_ret2
  exact ⟨HCA.out.alloc _, _, _, rfl, .inr (.inr ⟨_, rfl⟩)⟩
set_option maxRecDepth 100000 in
set_option maxHeartbeats 2000000 in
theorem parse_short0 (base s : Nat) (sp : Int) (w : World) (a0 a1 : Addr) (hS : Sent w a0 a1) (hB : 0 < base ∧ 1 < base ∧ a0.block < base ∧ a1.block < base) (hbs : base ≤ s) (rest : List Int) (hs : Src w base s (0 :: rest) sp) (hxl : (0 :: rest : List Int).length ≤ 2097152) (hsh : rest.length < 1) :
    Calls Tryd.prog 19 #[.iface 58 (.pointer (some ⟨s, 0, none⟩))] w (ParseErr w s a0 a1) := by
  have HSH := As.mk hsh
  clear hsh
  have HS := As.mk hS
  have HB := As.mk hB
  have HSR := As.mk hs
  have HXL : As ((0 :: rest : List Int).length ≤ 2097152) := ⟨hxl⟩
  have hsl : s < w.heap.size := by obtain ⟨A, c, hb, _⟩ := hs; exact hb.lt
  clear hS hB hs hxl
  go_enter Tryd.func19, Tryd.ntmps19
  go_wp2_with fail
  have hc0 : Chg NoB w (w.alloc (.cells (nums .u8 [0, 0, 0, 0, 0, 0, 0, 0, 0, 0, 0, 0, 0, 0, 0, 0, 0, 0, 0]).toArray 79)) := (Chg.refl NoB w).alloc _
  refine (readPart_any 79 base s w.heap.size 19 19 19 1 (0 :: rest) [0, 0, 0, 0, 0, 0, 0, 0, 0, 0, 0, 0, 0, 0, 0, 0, 0, 0, 0] sp _ a0 a1 (HS.out.keep hc0) HB.out (HSR.out.keep hc0) (own_lit w base 79 .u8 [0, 0, 0, 0, 0, 0, 0, 0, 0, 0, 0, 0, 0, 0, 0, 0, 0, 0, 0] (by omega) (by simp [maxLen])) rfl (by omega) (by omega) hbs (by omega) (by omega) HXL.out (by omega)).mono ?_
  rintro e w1 ⟨hc1, hm1⟩
  have hcA : Chg (fun b => b = s) w w1 := (hc0.mono (fun _ _ e => e.elim)).trans hc1 (fun i hi e => by rcases e with e | e <;> omega)
  rcases hm1 with ⟨_, rfl, h3, h4⟩ | ⟨hbad, _⟩
  rotate_left
  · simp at hbad
  have hgl : w.heap.size < w1.heap.size := Nat.lt_of_lt_of_le (by simp) hc1.size
  obtain ⟨k0, f0⟩ := own_at h4 0 (by simp)
  simp [rd] at k0
  have HSR1 := As.mk h3
  have HO1 := As.mk h4
  have HCA := As.mk hcA
  clear hc0 hc1 hcA h3 h4
  go_wp2_with fail
  obtain ⟨w2, hw2⟩ : ∃ w2, w2 = w1.alloc (.cells #[.int .u8 0, .int .u8 0, .int .u8 0, .int .u8 0, .int .u8 0, .int .u8 0, .int .u8 0, .int .u8 0, .int .u8 0, .int .u8 0, .int .u8 0, .int .u8 0, .int .u8 0, .int .u8 0, .int .u8 0, .int .u8 0, .int .u8 0, .int .u8 0, .int .u8 0, .int .u8 0, .int .u8 0, .int .u8 0] 85) := ⟨_, rfl⟩
  have hc2 : Chg NoB w1 w2 := by rw [hw2]; exact (Chg.refl NoB w1).alloc _
  have hop : Own w2 base 85 .u8 (.slice (some ⟨w1.heap.size, 0, none⟩) 22 22) [0, 0, 0, 0, 0, 0, 0, 0, 0, 0, 0, 0, 0, 0, 0, 0, 0, 0, 0, 0, 0, 0] := by rw [hw2]; exact own_lit w1 base 85 .u8 [0, 0, 0, 0, 0, 0, 0, 0, 0, 0, 0, 0, 0, 0, 0, 0, 0, 0, 0, 0, 0, 0] (by have := HCA.out.size; omega) (by simp [maxLen])
  have HOP := As.mk hop
  have HC2 : As (Chg (fun b => b = s) w w2) := ⟨HCA.out.trans hc2 (fun _ _ e => e.elim)⟩
  have hS2 : Sent w2 a0 a1 := HS.out.chg HB.out HC2.out (fun i hi e => by omega)
  have HSR2 := As.mk (HSR1.out.keep hc2)
  have HO2 := As.mk (own_keep HO1.out hc2)
  have hsz2 : w1.heap.size < w2.heap.size := (own_blocks hop).2
  rw [← hw2]
  clear hw2 hc2 hop k0 f0
  refine (readPart_any 79 base s w.heap.size 19 19 19 1 (rest) [0, 0, 0, 0, 0, 0, 0, 0, 0, 0, 0, 0, 0, 0, 0, 0, 0, 0, 0] sp _ a0 a1 hS2 HB.out HSR2.out HO2.out rfl (by omega) (by omega) hbs (by omega) (by omega) (by have := HXL.out; simp at this ⊢; omega) (by omega)).mono ?_
  rintro e w3 ⟨hc3, hm3⟩
  have HC3 : As (Chg (fun b => b = s) w w3) := ⟨HC2.out.trans hc3 (fun i hi e => by rcases e with e | e <;> omega)⟩
  rcases hm3 with ⟨hbad, _⟩ | ⟨_, he⟩
  · have := HSH.out
    omega
  · obtain ⟨ae, hae⟩ : ∃ ae, ae = if rest.length = 0 then a0 else a1 := ⟨_, rfl⟩
    rw [← hae] at he
    obtain ⟨m, hm⟩ : ∃ m, m = rest.length := ⟨_, rfl⟩
    rw [← hm] at he
    subst he
    have HAE := As.mk hae
    clear hae hm hc3 hS2
    go_wp2_with fail
    go_ret2
    refine ⟨HC3.out, _, _, rfl, ?_⟩
    rw [HAE.out]
    by_cases h0 : rest.length = 0
    · rw [if_pos h0]; exact .inl rfl
    · rw [if_neg h0]; exact .inr (.inl rfl)
set_option maxRecDepth 100000 in
set_option maxHeartbeats 2000000 in
theorem parse_short1 (base s : Nat) (sp : Int) (w : World) (a0 a1 : Addr) (hS : Sent w a0 a1) (hB : 0 < base ∧ 1 < base ∧ a0.block < base ∧ a1.block < base) (hbs : base ≤ s) (rest : List Int) (hs : Src w base s (1 :: rest) sp) (hxl : (1 :: rest : List Int).length ≤ 2097152) (hsh : rest.length < 9) :
    Calls Tryd.prog 19 #[.iface 58 (.pointer (some ⟨s, 0, none⟩))] w (ParseErr w s a0 a1) := by
  have HSH := As.mk hsh
  clear hsh
  have HS := As.mk hS
  have HB := As.mk hB
  have HSR := As.mk hs
  have HXL : As ((1 :: rest : List Int).length ≤ 2097152) := ⟨hxl⟩
  have hsl : s < w.heap.size := by obtain ⟨A, c, hb, _⟩ := hs; exact hb.lt
  clear hS hB hs hxl
  go_enter Tryd.func19, Tryd.ntmps19
  go_wp2_with fail
  have hc0 : Chg NoB w (w.alloc (.cells (nums .u8 [0, 0, 0, 0, 0, 0, 0, 0, 0, 0, 0, 0, 0, 0, 0, 0, 0, 0, 0]).toArray 79)) := (Chg.refl NoB w).alloc _
  refine (readPart_any 79 base s w.heap.size 19 19 19 1 (1 :: rest) [0, 0, 0, 0, 0, 0, 0, 0, 0, 0, 0, 0, 0, 0, 0, 0, 0, 0, 0] sp _ a0 a1 (HS.out.keep hc0) HB.out (HSR.out.keep hc0) (own_lit w base 79 .u8 [0, 0, 0, 0, 0, 0, 0, 0, 0, 0, 0, 0, 0, 0, 0, 0, 0, 0, 0] (by omega) (by simp [maxLen])) rfl (by omega) (by omega) hbs (by omega) (by omega) HXL.out (by omega)).mono ?_
  rintro e w1 ⟨hc1, hm1⟩
  have hcA : Chg (fun b => b = s) w w1 := (hc0.mono (fun _ _ e => e.elim)).trans hc1 (fun i hi e => by rcases e with e | e <;> omega)
  rcases hm1 with ⟨_, rfl, h3, h4⟩ | ⟨hbad, _⟩
  rotate_left
  · simp at hbad
  have hgl : w.heap.size < w1.heap.size := Nat.lt_of_lt_of_le (by simp) hc1.size
  obtain ⟨k0, f0⟩ := own_at h4 0 (by simp)
  simp [rd] at k0
  have HSR1 := As.mk h3
  have HO1 := As.mk h4
  have HCA := As.mk hcA
  clear hc0 hc1 hcA h3 h4
  go_wp2_with fail
  obtain ⟨w2, hw2⟩ : ∃ w2, w2 = w1.alloc (.cells #[.int .u8 1, .int .u8 0, .int .u8 0, .int .u8 0, .int .u8 0, .int .u8 0, .int .u8 0, .int .u8 0, .int .u8 0, .int .u8 0, .int .u8 0, .int .u8 0, .int .u8 0, .int .u8 0, .int .u8 0, .int .u8 0, .int .u8 0, .int .u8 0, .int .u8 0, .int .u8 0, .int .u8 0, .int .u8 0] 85) := ⟨_, rfl⟩
  have hc2 : Chg NoB w1 w2 := by rw [hw2]; exact (Chg.refl NoB w1).alloc _
  have hop : Own w2 base 85 .u8 (.slice (some ⟨w1.heap.size, 0, none⟩) 22 22) [1, 0, 0, 0, 0, 0, 0, 0, 0, 0, 0, 0, 0, 0, 0, 0, 0, 0, 0, 0, 0, 0] := by rw [hw2]; exact own_lit w1 base 85 .u8 [1, 0, 0, 0, 0, 0, 0, 0, 0, 0, 0, 0, 0, 0, 0, 0, 0, 0, 0, 0, 0, 0] (by have := HCA.out.size; omega) (by simp [maxLen])
  have HOP := As.mk hop
  have HC2 : As (Chg (fun b => b = s) w w2) := ⟨HCA.out.trans hc2 (fun _ _ e => e.elim)⟩
  have hS2 : Sent w2 a0 a1 := HS.out.chg HB.out HC2.out (fun i hi e => by omega)
  have HSR2 := As.mk (HSR1.out.keep hc2)
  have HO2 := As.mk (own_keep HO1.out hc2)
  have hsz2 : w1.heap.size < w2.heap.size := (own_blocks hop).2
  rw [← hw2]
  clear hw2 hc2 hop k0 f0
  refine (readPart_any 79 base s w.heap.size 19 19 19 9 (rest) [1, 0, 0, 0, 0, 0, 0, 0, 0, 0, 0, 0, 0, 0, 0, 0, 0, 0, 0] sp _ a0 a1 hS2 HB.out HSR2.out HO2.out rfl (by omega) (by omega) hbs (by omega) (by omega) (by have := HXL.out; simp at this ⊢; omega) (by omega)).mono ?_
  rintro e w3 ⟨hc3, hm3⟩
  have HC3 : As (Chg (fun b => b = s) w w3) := ⟨HC2.out.trans hc3 (fun i hi e => by rcases e with e | e <;> omega)⟩
  rcases hm3 with ⟨hbad, _⟩ | ⟨_, he⟩
  · have := HSH.out
    omega
  · obtain ⟨ae, hae⟩ : ∃ ae, ae = if rest.length = 0 then a0 else a1 := ⟨_, rfl⟩
    rw [← hae] at he
    obtain ⟨m, hm⟩ : ∃ m, m = rest.length := ⟨_, rfl⟩
    rw [← hm] at he
    subst he
    have HAE := As.mk hae
    clear hae hm hc3 hS2
    go_wp2_with fail
    go_ret2
    refine ⟨HC3.out, _, _, rfl, ?_⟩
    rw [HAE.out]
    by_cases h0 : rest.length = 0
    · rw [if_pos h0]; exact .inl rfl
    · rw [if_neg h0]; exact .inr (.inl rfl)
set_option maxRecDepth 100000 in
set_option maxHeartbeats 2000000 in
theorem parse_short3 (base s : Nat) (sp : Int) (w : World) (a0 a1 : Addr) (hS : Sent w a0 a1) (hB : 0 < base ∧ 1 < base ∧ a0.block < base ∧ a1.block < base) (hbs : base ≤ s) (rest : List Int) (hs : Src w base s (3 :: rest) sp) (hxl : (3 :: rest : List Int).length ≤ 2097152) (hsh : rest.length < 10) :
    Calls Tryd.prog 19 #[.iface 58 (.pointer (some ⟨s, 0, none⟩))] w (ParseErr w s a0 a1) := by
  have HSH := As.mk hsh
  clear hsh
  have HS := As.mk hS
  have HB := As.mk hB
  have HSR := As.mk hs
  have HXL : As ((3 :: rest : List Int).length ≤ 2097152) := ⟨hxl⟩
  have hsl : s < w.heap.size := by obtain ⟨A, c, hb, _⟩ := hs; exact hb.lt
  clear hS hB hs hxl
  go_enter Tryd.func19, Tryd.ntmps19
  go_wp2_with fail
  have hc0 : Chg NoB w (w.alloc (.cells (nums .u8 [0, 0, 0, 0, 0, 0, 0, 0, 0, 0, 0, 0, 0, 0, 0, 0, 0, 0, 0]).toArray 79)) := (Chg.refl NoB w).alloc _
  refine (readPart_any 79 base s w.heap.size 19 19 19 1 (3 :: rest) [0, 0, 0, 0, 0, 0, 0, 0, 0, 0, 0, 0, 0, 0, 0, 0, 0, 0, 0] sp _ a0 a1 (HS.out.keep hc0) HB.out (HSR.out.keep hc0) (own_lit w base 79 .u8 [0, 0, 0, 0, 0, 0, 0, 0, 0, 0, 0, 0, 0, 0, 0, 0, 0, 0, 0] (by omega) (by simp [maxLen])) rfl (by omega) (by omega) hbs (by omega) (by omega) HXL.out (by omega)).mono ?_
  rintro e w1 ⟨hc1, hm1⟩
  have hcA : Chg (fun b => b = s) w w1 := (hc0.mono (fun _ _ e => e.elim)).trans hc1 (fun i hi e => by rcases e with e | e <;> omega)
  rcases hm1 with ⟨_, rfl, h3, h4⟩ | ⟨hbad, _⟩
  rotate_left
  · simp at hbad
  have hgl : w.heap.size < w1.heap.size := Nat.lt_of_lt_of_le (by simp) hc1.size
  obtain ⟨k0, f0⟩ := own_at h4 0 (by simp)
  simp [rd] at k0
  have HSR1 := As.mk h3
  have HO1 := As.mk h4
  have HCA := As.mk hcA
  clear hc0 hc1 hcA h3 h4
  go_wp2_with fail
  obtain ⟨w2, hw2⟩ : ∃ w2, w2 = w1.alloc (.cells #[.int .u8 3, .int .u8 0, .int .u8 0, .int .u8 0, .int .u8 0, .int .u8 0, .int .u8 0, .int .u8 0, .int .u8 0, .int .u8 0, .int .u8 0, .int .u8 0, .int .u8 0, .int .u8 0, .int .u8 0, .int .u8 0, .int .u8 0, .int .u8 0, .int .u8 0, .int .u8 0, .int .u8 0, .int .u8 0] 85) := ⟨_, rfl⟩
  have hc2 : Chg NoB w1 w2 := by rw [hw2]; exact (Chg.refl NoB w1).alloc _
  have hop : Own w2 base 85 .u8 (.slice (some ⟨w1.heap.size, 0, none⟩) 22 22) [3, 0, 0, 0, 0, 0, 0, 0, 0, 0, 0, 0, 0, 0, 0, 0, 0, 0, 0, 0, 0, 0] := by rw [hw2]; exact own_lit w1 base 85 .u8 [3, 0, 0, 0, 0, 0, 0, 0, 0, 0, 0, 0, 0, 0, 0, 0, 0, 0, 0, 0, 0, 0] (by have := HCA.out.size; omega) (by simp [maxLen])
  have HOP := As.mk hop
  have HC2 : As (Chg (fun b => b = s) w w2) := ⟨HCA.out.trans hc2 (fun _ _ e => e.elim)⟩
  have hS2 : Sent w2 a0 a1 := HS.out.chg HB.out HC2.out (fun i hi e => by omega)
  have HSR2 := As.mk (HSR1.out.keep hc2)
  have HO2 := As.mk (own_keep HO1.out hc2)
  have hsz2 : w1.heap.size < w2.heap.size := (own_blocks hop).2
  rw [← hw2]
  clear hw2 hc2 hop k0 f0
  refine (readPart_any 79 base s w.heap.size 19 19 19 10 (rest) [3, 0, 0, 0, 0, 0, 0, 0, 0, 0, 0, 0, 0, 0, 0, 0, 0, 0, 0] sp _ a0 a1 hS2 HB.out HSR2.out HO2.out rfl (by omega) (by omega) hbs (by omega) (by omega) (by have := HXL.out; simp at this ⊢; omega) (by omega)).mono ?_
  rintro e w3 ⟨hc3, hm3⟩
  have HC3 : As (Chg (fun b => b = s) w w3) := ⟨HC2.out.trans hc3 (fun i hi e => by rcases e with e | e <;> omega)⟩
  rcases hm3 with ⟨hbad, _⟩ | ⟨_, he⟩
  · have := HSH.out
    omega
  · obtain ⟨ae, hae⟩ : ∃ ae, ae = if rest.length = 0 then a0 else a1 := ⟨_, rfl⟩
    rw [← hae] at he
    obtain ⟨m, hm⟩ : ∃ m, m = rest.length := ⟨_, rfl⟩
    rw [← hm] at he
    subst he
    have HAE := As.mk hae
    clear hae hm hc3 hS2
    go_wp2_with fail
    go_ret2
    refine ⟨HC3.out, _, _, rfl, ?_⟩
    rw [HAE.out]
    by_cases h0 : rest.length = 0
    · rw [if_pos h0]; exact .inl rfl
    · rw [if_neg h0]; exact .inr (.inl rfl)
set_option maxRecDepth 100000 in
set_option maxHeartbeats 2000000 in
theorem parse_short4 (base s : Nat) (sp : Int) (w : World) (a0 a1 : Addr) (hS : Sent w a0 a1) (hB : 0 < base ∧ 1 < base ∧ a0.block < base ∧ a1.block < base) (hbs : base ≤ s) (rest : List Int) (hs : Src w base s (4 :: rest) sp) (hxl : (4 :: rest : List Int).length ≤ 2097152) (hsh : rest.length < 19) :
    Calls Tryd.prog 19 #[.iface 58 (.pointer (some ⟨s, 0, none⟩))] w (ParseErr w s a0 a1) := by
  have HSH := As.mk hsh
  clear hsh
  have HS := As.mk hS
  have HB := As.mk hB
  have HSR := As.mk hs
  have HXL : As ((4 :: rest : List Int).length ≤ 2097152) := ⟨hxl⟩
  have hsl : s < w.heap.size := by obtain ⟨A, c, hb, _⟩ := hs; exact hb.lt
  clear hS hB hs hxl
  go_enter Tryd.func19, Tryd.ntmps19
  go_wp2_with fail
  have hc0 : Chg NoB w (w.alloc (.cells (nums .u8 [0, 0, 0, 0, 0, 0, 0, 0, 0, 0, 0, 0, 0, 0, 0, 0, 0, 0, 0]).toArray 79)) := (Chg.refl NoB w).alloc _
  refine (readPart_any 79 base s w.heap.size 19 19 19 1 (4 :: rest) [0, 0, 0, 0, 0, 0, 0, 0, 0, 0, 0, 0, 0, 0, 0, 0, 0, 0, 0] sp _ a0 a1 (HS.out.keep hc0) HB.out (HSR.out.keep hc0) (own_lit w base 79 .u8 [0, 0, 0, 0, 0, 0, 0, 0, 0, 0, 0, 0, 0, 0, 0, 0, 0, 0, 0] (by omega) (by simp [maxLen])) rfl (by omega) (by omega) hbs (by omega) (by omega) HXL.out (by omega)).mono ?_
  rintro e w1 ⟨hc1, hm1⟩
  have hcA : Chg (fun b => b = s) w w1 := (hc0.mono (fun _ _ e => e.elim)).trans hc1 (fun i hi e => by rcases e with e | e <;> omega)
  rcases hm1 with ⟨_, rfl, h3, h4⟩ | ⟨hbad, _⟩
  rotate_left
  · simp at hbad
  have hgl : w.heap.size < w1.heap.size := Nat.lt_of_lt_of_le (by simp) hc1.size
  obtain ⟨k0, f0⟩ := own_at h4 0 (by simp)
  simp [rd] at k0
  have HSR1 := As.mk h3
  have HO1 := As.mk h4
  have HCA := As.mk hcA
  clear hc0 hc1 hcA h3 h4
  go_wp2_with fail
  obtain ⟨w2, hw2⟩ : ∃ w2, w2 = w1.alloc (.cells #[.int .u8 4, .int .u8 0, .int .u8 0, .int .u8 0, .int .u8 0, .int .u8 0, .int .u8 0, .int .u8 0, .int .u8 0, .int .u8 0, .int .u8 0, .int .u8 0, .int .u8 0, .int .u8 0, .int .u8 0, .int .u8 0, .int .u8 0, .int .u8 0, .int .u8 0, .int .u8 0, .int .u8 0, .int .u8 0] 85) := ⟨_, rfl⟩
  have hc2 : Chg NoB w1 w2 := by rw [hw2]; exact (Chg.refl NoB w1).alloc _
  have hop : Own w2 base 85 .u8 (.slice (some ⟨w1.heap.size, 0, none⟩) 22 22) [4, 0, 0, 0, 0, 0, 0, 0, 0, 0, 0, 0, 0, 0, 0, 0, 0, 0, 0, 0, 0, 0] := by rw [hw2]; exact own_lit w1 base 85 .u8 [4, 0, 0, 0, 0, 0, 0, 0, 0, 0, 0, 0, 0, 0, 0, 0, 0, 0, 0, 0, 0, 0] (by have := HCA.out.size; omega) (by simp [maxLen])
  have HOP := As.mk hop
  have HC2 : As (Chg (fun b => b = s) w w2) := ⟨HCA.out.trans hc2 (fun _ _ e => e.elim)⟩
  have hS2 : Sent w2 a0 a1 := HS.out.chg HB.out HC2.out (fun i hi e => by omega)
  have HSR2 := As.mk (HSR1.out.keep hc2)
  have HO2 := As.mk (own_keep HO1.out hc2)
  have hsz2 : w1.heap.size < w2.heap.size := (own_blocks hop).2
  rw [← hw2]
  clear hw2 hc2 hop k0 f0
  refine (readPart_any 79 base s w.heap.size 19 19 19 19 (rest) [4, 0, 0, 0, 0, 0, 0, 0, 0, 0, 0, 0, 0, 0, 0, 0, 0, 0, 0] sp _ a0 a1 hS2 HB.out HSR2.out HO2.out rfl (by omega) (by omega) hbs (by omega) (by omega) (by have := HXL.out; simp at this ⊢; omega) (by omega)).mono ?_
  rintro e w3 ⟨hc3, hm3⟩
  have HC3 : As (Chg (fun b => b = s) w w3) := ⟨HC2.out.trans hc3 (fun i hi e => by rcases e with e | e <;> omega)⟩
  rcases hm3 with ⟨hbad, _⟩ | ⟨_, he⟩
  · have := HSH.out
    omega
  · obtain ⟨ae, hae⟩ : ∃ ae, ae = if rest.length = 0 then a0 else a1 := ⟨_, rfl⟩
    rw [← hae] at he
    obtain ⟨m, hm⟩ : ∃ m, m = rest.length := ⟨_, rfl⟩
    rw [← hm] at he
    subst he
    have HAE := As.mk hae
    clear hae hm hc3 hS2
    go_wp2_with fail
    go_ret2
    refine ⟨HC3.out, _, _, rfl, ?_⟩
    rw [HAE.out]
    by_cases h0 : rest.length = 0
    · rw [if_pos h0]; exact .inl rfl
    · rw [if_neg h0]; exact .inr (.inl rfl)
set_option maxRecDepth 100000 in
set_option maxHeartbeats 4000000 in
theorem parse_0 (base s : Nat) (sp : Int) (w : World) (a0 a1 : Addr) (hS : Sent w a0 a1) (hB : 0 < base ∧ 1 < base ∧ a0.block < base ∧ a1.block < base) (hbs : base ≤ s) (x1 : Int) (rest : List Int) (hs : Src w base s (0 :: x1 :: rest) sp) (hxl : (0 :: x1 :: rest : List Int).length ≤ 2097152) :
    Calls Tryd.prog 19 #[.iface 58 (.pointer (some ⟨s, 0, none⟩))] w (ParsedOf w base s [0, x1, 0, 0, 0, 0, 0, 0, 0, 0, 0, 0, 0, 0, 0, 0, 0, 0, 0, 0, 0, 0] rest sp) := by
  have HS := As.mk hS
  have HB := As.mk hB
  have HSR := As.mk hs
  have HXL : As ((0 :: x1 :: rest : List Int).length ≤ 2097152) := ⟨hxl⟩
  have hsl : s < w.heap.size := by obtain ⟨A, c, hb, _⟩ := hs; exact hb.lt
  clear hS hB hs hxl
  go_enter Tryd.func19, Tryd.ntmps19
  go_wp2_with fail
  have hc0 : Chg NoB w (w.alloc (.cells (nums .u8 [0, 0, 0, 0, 0, 0, 0, 0, 0, 0, 0, 0, 0, 0, 0, 0, 0, 0, 0]).toArray 79)) := (Chg.refl NoB w).alloc _
  refine (readPart_any 79 base s w.heap.size 19 19 19 1 (0 :: x1 :: rest) [0, 0, 0, 0, 0, 0, 0, 0, 0, 0, 0, 0, 0, 0, 0, 0, 0, 0, 0] sp _ a0 a1 (HS.out.keep hc0) HB.out (HSR.out.keep hc0) (own_lit w base 79 .u8 [0, 0, 0, 0, 0, 0, 0, 0, 0, 0, 0, 0, 0, 0, 0, 0, 0, 0, 0] (by omega) (by simp [maxLen])) rfl (by omega) (by omega) hbs (by omega) (by omega) HXL.out (by omega)).mono ?_
  rintro e w1 ⟨hc1, hm1⟩
  have hcA : Chg (fun b => b = s) w w1 := (hc0.mono (fun _ _ e => e.elim)).trans hc1 (fun i hi e => by rcases e with e | e <;> omega)
  rcases hm1 with ⟨_, rfl, h3, h4⟩ | ⟨hbad, _⟩
  rotate_left
  · simp at hbad
  have hgl : w.heap.size < w1.heap.size := Nat.lt_of_lt_of_le (by simp) hc1.size
  obtain ⟨k0, f0⟩ := own_at h4 0 (by simp)
  simp [rd] at k0
  have HSR1 := As.mk h3
  have HO1 := As.mk h4
  have HCA := As.mk hcA
  clear hc0 hc1 hcA h3 h4
  go_wp2_with fail
  obtain ⟨w2, hw2⟩ : ∃ w2, w2 = w1.alloc (.cells #[.int .u8 0, .int .u8 0, .int .u8 0, .int .u8 0, .int .u8 0, .int .u8 0, .int .u8 0, .int .u8 0, .int .u8 0, .int .u8 0, .int .u8 0, .int .u8 0, .int .u8 0, .int .u8 0, .int .u8 0, .int .u8 0, .int .u8 0, .int .u8 0, .int .u8 0, .int .u8 0, .int .u8 0, .int .u8 0] 85) := ⟨_, rfl⟩
  have hc2 : Chg NoB w1 w2 := by rw [hw2]; exact (Chg.refl NoB w1).alloc _
  have hop : Own w2 base 85 .u8 (.slice (some ⟨w1.heap.size, 0, none⟩) 22 22) [0, 0, 0, 0, 0, 0, 0, 0, 0, 0, 0, 0, 0, 0, 0, 0, 0, 0, 0, 0, 0, 0] := by rw [hw2]; exact own_lit w1 base 85 .u8 [0, 0, 0, 0, 0, 0, 0, 0, 0, 0, 0, 0, 0, 0, 0, 0, 0, 0, 0, 0, 0, 0] (by have := HCA.out.size; omega) (by simp [maxLen])
  have HOP := As.mk hop
  have HC2 : As (Chg (fun b => b = s) w w2) := ⟨HCA.out.trans hc2 (fun _ _ e => e.elim)⟩
  have hS2 : Sent w2 a0 a1 := HS.out.chg HB.out HC2.out (fun i hi e => by omega)
  have HSR2 := As.mk (HSR1.out.keep hc2)
  have HO2 := As.mk (own_keep HO1.out hc2)
  have hsz2 : w1.heap.size < w2.heap.size := (own_blocks hop).2
  rw [← hw2]
  clear hw2 hc2 hop k0 f0
  refine (readPart_any 79 base s w.heap.size 19 19 19 1 (x1 :: rest) [0, 0, 0, 0, 0, 0, 0, 0, 0, 0, 0, 0, 0, 0, 0, 0, 0, 0, 0] sp _ a0 a1 hS2 HB.out HSR2.out HO2.out rfl (by omega) (by omega) hbs (by omega) (by omega) (by have := HXL.out; simp at this ⊢; omega) (by omega)).mono ?_
  rintro e w3 ⟨hc3, hm3⟩
  rcases hm3 with ⟨_, rfl, h3, h4⟩ | ⟨hbad, _⟩
  rotate_left
  · exfalso; simp only [List.length_cons] at hbad; omega
  have HC3 : As (Chg (fun b => b = s) w w3) := ⟨HC2.out.trans hc3 (fun i hi e => by rcases e with e | e <;> omega)⟩
  have hg23 : Chg (fun b => b = s ∨ b = w.heap.size) w2 w3 := hc3
  have hgb : w1.heap.size ≠ s ∧ w1.heap.size ≠ w.heap.size := by have := HCA.out.size; omega
  have hop3 : Own w3 base 85 .u8 (.slice (some ⟨w1.heap.size, 0, none⟩) 22 22) [0, 0, 0, 0, 0, 0, 0, 0, 0, 0, 0, 0, 0, 0, 0, 0, 0, 0, 0, 0, 0, 0] := own_chg HOP.out hg23 (fun b hb e => by simp [Value.ownBlock] at hb; omega)
  have HO3 : As (Own w3 base 79 .u8 (.slice (some ⟨w.heap.size, 0, none⟩) 19 19) [x1, 0, 0, 0, 0, 0, 0, 0, 0, 0, 0, 0, 0, 0, 0, 0, 0, 0, 0]) := ⟨h4⟩
  have HSR3 : As (Src w3 base s rest sp) := ⟨h3⟩
  have HP3 := As.mk hop3
  have HGB : As (w1.heap.size ≠ s ∧ w1.heap.size ≠ w.heap.size ∧ w.heap.size ≤ w1.heap.size ∧ w1.heap.size < w3.heap.size ∧ w.heap.size ≠ s) := ⟨by have := HCA.out.size; have := (own_blocks hop3).2; omega⟩
  obtain ⟨q0, _⟩ := own_at HO3.out 0 (by simp)
  simp [rd] at q0
  obtain ⟨p0, pf0⟩ := own_at hop3 0 (by simp)
  simp [rd] at p0
  obtain ⟨p1, pf1⟩ := own_at hop3 1 (by simp)
  simp [rd] at p1
  generalize w1.heap.size = g at *
  have hgn : g ≠ w.heap.size := HGB.out.2.1
  clear h3 h4 hc3 hg23 hop3 hgb hS2 hsz2
  go_wp2_with fail
  go_ret2
  have hcs : Chg (fun b => b = g) w3 _ := (Chg.refl (fun b => b = g) w3).setCell (p := ⟨g, 1, none⟩) (.int .u8 x1) (fun _ => rfl)
  refine ⟨HC3.out.trans hcs (fun i hi e => by have := HGB.out; omega), g, rfl, by have := HGB.out; omega, own_set HP3.out 1 x1, HSR3.out.chg hcs (fun e => by have := HGB.out; omega) (fun b hb e => by have := HGB.out; omega)⟩
set_option maxRecDepth 100000 in
set_option maxHeartbeats 4000000 in
theorem parse_1 (base s : Nat) (sp : Int) (w : World) (a0 a1 : Addr) (hS : Sent w a0 a1) (hB : 0 < base ∧ 1 < base ∧ a0.block < base ∧ a1.block < base) (hbs : base ≤ s) (x1 x2 x3 x4 x5 x6 x7 x8 x9 : Int) (rest : List Int) (hs : Src w base s (1 :: x1 :: x2 :: x3 :: x4 :: x5 :: x6 :: x7 :: x8 :: x9 :: rest) sp) (hxl : (1 :: x1 :: x2 :: x3 :: x4 :: x5 :: x6 :: x7 :: x8 :: x9 :: rest : List Int).length ≤ 2097152) :
    Calls Tryd.prog 19 #[.iface 58 (.pointer (some ⟨s, 0, none⟩))] w (ParsedOf w base s [1, x1, x2, x3, x4, x5, x6, x7, x8, x9, 0, 0, 0, 0, 0, 0, 0, 0, 0, 0, 0, 0] rest sp) := by
  have HS := As.mk hS
  have HB := As.mk hB
  have HSR := As.mk hs
  have HXL : As ((1 :: x1 :: x2 :: x3 :: x4 :: x5 :: x6 :: x7 :: x8 :: x9 :: rest : List Int).length ≤ 2097152) := ⟨hxl⟩
  have hsl : s < w.heap.size := by obtain ⟨A, c, hb, _⟩ := hs; exact hb.lt
  clear hS hB hs hxl
  go_enter Tryd.func19, Tryd.ntmps19
  go_wp2_with fail
  have hc0 : Chg NoB w (w.alloc (.cells (nums .u8 [0, 0, 0, 0, 0, 0, 0, 0, 0, 0, 0, 0, 0, 0, 0, 0, 0, 0, 0]).toArray 79)) := (Chg.refl NoB w).alloc _
  refine (readPart_any 79 base s w.heap.size 19 19 19 1 (1 :: x1 :: x2 :: x3 :: x4 :: x5 :: x6 :: x7 :: x8 :: x9 :: rest) [0, 0, 0, 0, 0, 0, 0, 0, 0, 0, 0, 0, 0, 0, 0, 0, 0, 0, 0] sp _ a0 a1 (HS.out.keep hc0) HB.out (HSR.out.keep hc0) (own_lit w base 79 .u8 [0, 0, 0, 0, 0, 0, 0, 0, 0, 0, 0, 0, 0, 0, 0, 0, 0, 0, 0] (by omega) (by simp [maxLen])) rfl (by omega) (by omega) hbs (by omega) (by omega) HXL.out (by omega)).mono ?_
  rintro e w1 ⟨hc1, hm1⟩
  have hcA : Chg (fun b => b = s) w w1 := (hc0.mono (fun _ _ e => e.elim)).trans hc1 (fun i hi e => by rcases e with e | e <;> omega)
  rcases hm1 with ⟨_, rfl, h3, h4⟩ | ⟨hbad, _⟩
  rotate_left
  · simp at hbad
  have hgl : w.heap.size < w1.heap.size := Nat.lt_of_lt_of_le (by simp) hc1.size
  obtain ⟨k0, f0⟩ := own_at h4 0 (by simp)
  simp [rd] at k0
  have HSR1 := As.mk h3
  have HO1 := As.mk h4
  have HCA := As.mk hcA
  clear hc0 hc1 hcA h3 h4
  go_wp2_with fail
  obtain ⟨w2, hw2⟩ : ∃ w2, w2 = w1.alloc (.cells #[.int .u8 1, .int .u8 0, .int .u8 0, .int .u8 0, .int .u8 0, .int .u8 0, .int .u8 0, .int .u8 0, .int .u8 0, .int .u8 0, .int .u8 0, .int .u8 0, .int .u8 0, .int .u8 0, .int .u8 0, .int .u8 0, .int .u8 0, .int .u8 0, .int .u8 0, .int .u8 0, .int .u8 0, .int .u8 0] 85) := ⟨_, rfl⟩
  have hc2 : Chg NoB w1 w2 := by rw [hw2]; exact (Chg.refl NoB w1).alloc _
  have hop : Own w2 base 85 .u8 (.slice (some ⟨w1.heap.size, 0, none⟩) 22 22) [1, 0, 0, 0, 0, 0, 0, 0, 0, 0, 0, 0, 0, 0, 0, 0, 0, 0, 0, 0, 0, 0] := by rw [hw2]; exact own_lit w1 base 85 .u8 [1, 0, 0, 0, 0, 0, 0, 0, 0, 0, 0, 0, 0, 0, 0, 0, 0, 0, 0, 0, 0, 0] (by have := HCA.out.size; omega) (by simp [maxLen])
  have HOP := As.mk hop
  have HC2 : As (Chg (fun b => b = s) w w2) := ⟨HCA.out.trans hc2 (fun _ _ e => e.elim)⟩
  have hS2 : Sent w2 a0 a1 := HS.out.chg HB.out HC2.out (fun i hi e => by omega)
  have HSR2 := As.mk (HSR1.out.keep hc2)
  have HO2 := As.mk (own_keep HO1.out hc2)
  have hsz2 : w1.heap.size < w2.heap.size := (own_blocks hop).2
  rw [← hw2]
  clear hw2 hc2 hop k0 f0
  refine (readPart_any 79 base s w.heap.size 19 19 19 9 (x1 :: x2 :: x3 :: x4 :: x5 :: x6 :: x7 :: x8 :: x9 :: rest) [1, 0, 0, 0, 0, 0, 0, 0, 0, 0, 0, 0, 0, 0, 0, 0, 0, 0, 0] sp _ a0 a1 hS2 HB.out HSR2.out HO2.out rfl (by omega) (by omega) hbs (by omega) (by omega) (by have := HXL.out; simp at this ⊢; omega) (by omega)).mono ?_
  rintro e w3 ⟨hc3, hm3⟩
  rcases hm3 with ⟨_, rfl, h3, h4⟩ | ⟨hbad, _⟩
  rotate_left
  · exfalso; simp only [List.length_cons] at hbad; omega
  have HC3 : As (Chg (fun b => b = s) w w3) := ⟨HC2.out.trans hc3 (fun i hi e => by rcases e with e | e <;> omega)⟩
  have hg23 : Chg (fun b => b = s ∨ b = w.heap.size) w2 w3 := hc3
  have hgb : w1.heap.size ≠ s ∧ w1.heap.size ≠ w.heap.size := by have := HCA.out.size; omega
  have hop3 : Own w3 base 85 .u8 (.slice (some ⟨w1.heap.size, 0, none⟩) 22 22) [1, 0, 0, 0, 0, 0, 0, 0, 0, 0, 0, 0, 0, 0, 0, 0, 0, 0, 0, 0, 0, 0] := own_chg HOP.out hg23 (fun b hb e => by simp [Value.ownBlock] at hb; omega)
  have HO3 : As (Own w3 base 79 .u8 (.slice (some ⟨w.heap.size, 0, none⟩) 19 19) [x1, x2, x3, x4, x5, x6, x7, x8, x9, 0, 0, 0, 0, 0, 0, 0, 0, 0, 0]) := ⟨h4⟩
  have HSR3 : As (Src w3 base s rest sp) := ⟨h3⟩
  have HP3 := As.mk hop3
  have HGB : As (w1.heap.size ≠ s ∧ w1.heap.size ≠ w.heap.size ∧ w.heap.size ≤ w1.heap.size ∧ w1.heap.size < w3.heap.size ∧ w.heap.size ≠ s) := ⟨by have := HCA.out.size; have := (own_blocks hop3).2; omega⟩
  obtain ⟨q0, _⟩ := own_at HO3.out 0 (by simp)
  simp [rd] at q0
  obtain ⟨p0, pf0⟩ := own_at hop3 0 (by simp)
  simp [rd] at p0
  obtain ⟨p1, pf1⟩ := own_at hop3 1 (by simp)
  simp [rd] at p1
  generalize w1.heap.size = g at *
  have hgn : g ≠ w.heap.size := HGB.out.2.1
  clear h3 h4 hc3 hg23 hop3 hgb hS2 hsz2
  go_upto_region 17 with fail
  obtain ⟨w4, hw4⟩ : ∃ w4, w4 = w3.setCell ⟨g, 1, none⟩ (.int .u8 x1) := ⟨_, rfl⟩
  have hc4 : Chg (fun b => b = g) w3 w4 := by rw [hw4]; exact (Chg.refl (fun b => b = g) w3).setCell (p := ⟨g, 1, none⟩) (.int .u8 x1) (fun _ => rfl)
  have HP4 : As (Own w4 base 85 .u8 (.slice (some ⟨g, 0, none⟩) 22 22) [1, x1, 0, 0, 0, 0, 0, 0, 0, 0, 0, 0, 0, 0, 0, 0, 0, 0, 0, 0, 0, 0]) := ⟨by rw [hw4]; exact own_set HP3.out 1 x1⟩
  have HO4 : As (Own w4 base 79 .u8 (.slice (some ⟨w.heap.size, 0, none⟩) 19 19) [x1, x2, x3, x4, x5, x6, x7, x8, x9, 0, 0, 0, 0, 0, 0, 0, 0, 0, 0]) := ⟨own_chg HO3.out hc4 (fun b hb e => by simp [Value.ownBlock] at hb; omega)⟩
  rw [← hw4]
  clear hw4
  obtain ⟨r0, _⟩ := own_at HP4.out 0 (by simp)
  simp [rd] at r0
  have HC4 := As.mk hc4
  have HSA : As (∀ w', Chg NoB w4 w' → Calls Tryd.prog 25 #[.pointer (some ⟨g, 0, none⟩)] w' fun e w'' => e = .returned (.slice (some ⟨g, 2, none⟩) 8 16) ∧ w'' = w') := ⟨fun w' h => salt_any g 1 w' (by omega) ((h.cell (p := ⟨g, 0, none⟩) (Nat.lt_of_lt_of_le HGB.out.2.2.2.1 HC4.out.size) (fun e => e)).trans r0)⟩
  have HRY : As (∀ w', Chg NoB w4 w' → Rb w' (some ⟨w.heap.size, 1, none⟩) [x2, x3, x4, x5, x6, x7, x8, x9]) := ⟨fun w' h => by
    have h1 := own_reads (own_keep HO4.out h)
    have h2 := (h1.drop_ 1).take_ 8
    rwa [show ((some ⟨w.heap.size, 0, none⟩ : Option Addr).map (·.add 1)) = some ⟨w.heap.size, 1, none⟩ from congrArg some (add_lit0 _ _)] at h2⟩
  have HB4 : As (Chg NoB w4 w4) := ⟨Chg.refl _ _⟩
  clear r0 hc4 p0 pf0 p1 pf1 q0
  go_cut [5] (fun s5 wx => As (Chg (fun b => b = g) w4 wx) ∧ As (Own wx base 85 .u8 (.slice (some ⟨g, 0, none⟩) 22 22) [1, x1, x2, x3, x4, x5, x6, x7, x8, x9, 0, 0, 0, 0, 0, 0, 0, 0, 0, 0, 0, 0]))
  case first =>
    go_region_held3 (fun _ => True) (trivial) (first
      | (go_at_call 25
         refine (HSA.out _ ?r1).mono ?_
         case r1 => exact (by repeat (first | exact HB4.out | (with_reducible apply Chg.drew) | (with_reducible apply Chg.alloc)))
         rintro e w5 ⟨rfl, hw5⟩
         subst hw5)
      | (refine step_copy_rk (N := 58) rfl rfl _ _ 22 22 rfl base 5 .u8 Tryd.underlying22 size8 g 22 [1, x1, 0, 0, 0, 0, 0, 0, 0, 0, 0, 0, 0, 0, 0, 0, 0, 0, 0, 0, 0, 0] (own_keep HP4.out ?r1) (some ⟨g, 2, none⟩) 2 8 16 (by simp) rfl (fun _ => rfl) (some ⟨w.heap.size, 1, none⟩) [x2, x3, x4, x5, x6, x7, x8, x9] 8 _ rfl rfl (HRY.out _ ?r2) ?_
         case r1 => exact (by repeat (first | exact HB4.out | (with_reducible apply Chg.drew) | (with_reducible apply Chg.alloc)))
         case r2 => exact (by repeat (first | exact HB4.out | (with_reducible apply Chg.drew) | (with_reducible apply Chg.alloc)))
         intro w6 ho6 hg6
         have HC6 : As (Chg (fun b => b = g) w4 w6) := ⟨Chg.trans (Chg.mono (S := NoB) (by repeat (first | exact HB4.out | (with_reducible apply Chg.drew) | (with_reducible apply Chg.alloc))) (fun _ _ e => e.elim)) (grown_chg hg6) (fun i hi e => (Option.some.inj e).symm)⟩
         have HO6 : As (Own w6 base 85 .u8 (.slice (some ⟨g, 0, none⟩) 22 22) [1, x1, x2, x3, x4, x5, x6, x7, x8, x9, 0, 0, 0, 0, 0, 0, 0, 0, 0, 0, 0, 0]) := ⟨ho6⟩
         clear ho6 hg6))
    all_goals
      go_wp2_with fail
      go_meet
      exact ⟨HC6, HO6⟩
  case rest =>
    obtain ⟨HC6, HO6⟩ := hcut
    go_wp2_with fail
    go_ret2
    have hcs := HC4.out.trans HC6.out (fun _ _ e => e)
    exact ⟨HC3.out.trans hcs (fun i hi e => by have := HGB.out; omega), g, rfl, by have := HGB.out; omega, HO6.out, HSR3.out.chg hcs (fun e => by have := HGB.out; omega) (fun b hb e => by have := HGB.out; omega)⟩
set_option maxRecDepth 100000 in
set_option maxHeartbeats 4000000 in
theorem parse_3 (base s : Nat) (sp : Int) (w : World) (a0 a1 : Addr) (hS : Sent w a0 a1) (hB : 0 < base ∧ 1 < base ∧ a0.block < base ∧ a1.block < base) (hbs : base ≤ s) (x1 x2 x3 x4 x5 x6 x7 x8 x9 x10 : Int) (rest : List Int) (hs : Src w base s (3 :: x1 :: x2 :: x3 :: x4 :: x5 :: x6 :: x7 :: x8 :: x9 :: x10 :: rest) sp) (hxl : (3 :: x1 :: x2 :: x3 :: x4 :: x5 :: x6 :: x7 :: x8 :: x9 :: x10 :: rest : List Int).length ≤ 2097152) :
    Calls Tryd.prog 19 #[.iface 58 (.pointer (some ⟨s, 0, none⟩))] w (ParsedOf w base s [3, x1, x2, x3, x4, x5, x6, x7, x8, x9, 0, 0, 0, 0, 0, 0, 0, 0, x10, 0, 0, 0] rest sp) := by
  have HS := As.mk hS
  have HB := As.mk hB
  have HSR := As.mk hs
  have HXL : As ((3 :: x1 :: x2 :: x3 :: x4 :: x5 :: x6 :: x7 :: x8 :: x9 :: x10 :: rest : List Int).length ≤ 2097152) := ⟨hxl⟩
  have hsl : s < w.heap.size := by obtain ⟨A, c, hb, _⟩ := hs; exact hb.lt
  clear hS hB hs hxl
  go_enter Tryd.func19, Tryd.ntmps19
  go_wp2_with fail
  have hc0 : Chg NoB w (w.alloc (.cells (nums .u8 [0, 0, 0, 0, 0, 0, 0, 0, 0, 0, 0, 0, 0, 0, 0, 0, 0, 0, 0]).toArray 79)) := (Chg.refl NoB w).alloc _
  refine (readPart_any 79 base s w.heap.size 19 19 19 1 (3 :: x1 :: x2 :: x3 :: x4 :: x5 :: x6 :: x7 :: x8 :: x9 :: x10 :: rest) [0, 0, 0, 0, 0, 0, 0, 0, 0, 0, 0, 0, 0, 0, 0, 0, 0, 0, 0] sp _ a0 a1 (HS.out.keep hc0) HB.out (HSR.out.keep hc0) (own_lit w base 79 .u8 [0, 0, 0, 0, 0, 0, 0, 0, 0, 0, 0, 0, 0, 0, 0, 0, 0, 0, 0] (by omega) (by simp [maxLen])) rfl (by omega) (by omega) hbs (by omega) (by omega) HXL.out (by omega)).mono ?_
  rintro e w1 ⟨hc1, hm1⟩
  have hcA : Chg (fun b => b = s) w w1 := (hc0.mono (fun _ _ e => e.elim)).trans hc1 (fun i hi e => by rcases e with e | e <;> omega)
  rcases hm1 with ⟨_, rfl, h3, h4⟩ | ⟨hbad, _⟩
  rotate_left
  · simp at hbad
  have hgl : w.heap.size < w1.heap.size := Nat.lt_of_lt_of_le (by simp) hc1.size
  obtain ⟨k0, f0⟩ := own_at h4 0 (by simp)
  simp [rd] at k0
  have HSR1 := As.mk h3
  have HO1 := As.mk h4
  have HCA := As.mk hcA
  clear hc0 hc1 hcA h3 h4
  go_wp2_with fail
  obtain ⟨w2, hw2⟩ : ∃ w2, w2 = w1.alloc (.cells #[.int .u8 3, .int .u8 0, .int .u8 0, .int .u8 0, .int .u8 0, .int .u8 0, .int .u8 0, .int .u8 0, .int .u8 0, .int .u8 0, .int .u8 0, .int .u8 0, .int .u8 0, .int .u8 0, .int .u8 0, .int .u8 0, .int .u8 0, .int .u8 0, .int .u8 0, .int .u8 0, .int .u8 0, .int .u8 0] 85) := ⟨_, rfl⟩
  have hc2 : Chg NoB w1 w2 := by rw [hw2]; exact (Chg.refl NoB w1).alloc _
  have hop : Own w2 base 85 .u8 (.slice (some ⟨w1.heap.size, 0, none⟩) 22 22) [3, 0, 0, 0, 0, 0, 0, 0, 0, 0, 0, 0, 0, 0, 0, 0, 0, 0, 0, 0, 0, 0] := by rw [hw2]; exact own_lit w1 base 85 .u8 [3, 0, 0, 0, 0, 0, 0, 0, 0, 0, 0, 0, 0, 0, 0, 0, 0, 0, 0, 0, 0, 0] (by have := HCA.out.size; omega) (by simp [maxLen])
  have HOP := As.mk hop
  have HC2 : As (Chg (fun b => b = s) w w2) := ⟨HCA.out.trans hc2 (fun _ _ e => e.elim)⟩
  have hS2 : Sent w2 a0 a1 := HS.out.chg HB.out HC2.out (fun i hi e => by omega)
  have HSR2 := As.mk (HSR1.out.keep hc2)
  have HO2 := As.mk (own_keep HO1.out hc2)
  have hsz2 : w1.heap.size < w2.heap.size := (own_blocks hop).2
  rw [← hw2]
  clear hw2 hc2 hop k0 f0
  refine (readPart_any 79 base s w.heap.size 19 19 19 10 (x1 :: x2 :: x3 :: x4 :: x5 :: x6 :: x7 :: x8 :: x9 :: x10 :: rest) [3, 0, 0, 0, 0, 0, 0, 0, 0, 0, 0, 0, 0, 0, 0, 0, 0, 0, 0] sp _ a0 a1 hS2 HB.out HSR2.out HO2.out rfl (by omega) (by omega) hbs (by omega) (by omega) (by have := HXL.out; simp at this ⊢; omega) (by omega)).mono ?_
  rintro e w3 ⟨hc3, hm3⟩
  rcases hm3 with ⟨_, rfl, h3, h4⟩ | ⟨hbad, _⟩
  rotate_left
  · exfalso; simp only [List.length_cons] at hbad; omega
  have HC3 : As (Chg (fun b => b = s) w w3) := ⟨HC2.out.trans hc3 (fun i hi e => by rcases e with e | e <;> omega)⟩
  have hg23 : Chg (fun b => b = s ∨ b = w.heap.size) w2 w3 := hc3
  have hgb : w1.heap.size ≠ s ∧ w1.heap.size ≠ w.heap.size := by have := HCA.out.size; omega
  have hop3 : Own w3 base 85 .u8 (.slice (some ⟨w1.heap.size, 0, none⟩) 22 22) [3, 0, 0, 0, 0, 0, 0, 0, 0, 0, 0, 0, 0, 0, 0, 0, 0, 0, 0, 0, 0, 0] := own_chg HOP.out hg23 (fun b hb e => by simp [Value.ownBlock] at hb; omega)
  have HO3 : As (Own w3 base 79 .u8 (.slice (some ⟨w.heap.size, 0, none⟩) 19 19) [x1, x2, x3, x4, x5, x6, x7, x8, x9, x10, 0, 0, 0, 0, 0, 0, 0, 0, 0]) := ⟨h4⟩
  have HSR3 : As (Src w3 base s rest sp) := ⟨h3⟩
  have HP3 := As.mk hop3
  have HGB : As (w1.heap.size ≠ s ∧ w1.heap.size ≠ w.heap.size ∧ w.heap.size ≤ w1.heap.size ∧ w1.heap.size < w3.heap.size ∧ w.heap.size ≠ s) := ⟨by have := HCA.out.size; have := (own_blocks hop3).2; omega⟩
  obtain ⟨q0, _⟩ := own_at HO3.out 0 (by simp)
  simp [rd] at q0
  obtain ⟨q9, _⟩ := own_at HO3.out 9 (by simp)
  simp [rd] at q9
  obtain ⟨p0, pf0⟩ := own_at hop3 0 (by simp)
  simp [rd] at p0
  obtain ⟨p1, pf1⟩ := own_at hop3 1 (by simp)
  simp [rd] at p1
  obtain ⟨p18, pf18⟩ := own_at hop3 18 (by simp)
  simp [rd] at p18
  generalize w1.heap.size = g at *
  have hgn : g ≠ w.heap.size := HGB.out.2.1
  clear h3 h4 hc3 hg23 hop3 hgb hS2 hsz2
  go_upto_region 24 with fail
  obtain ⟨w4, hw4⟩ : ∃ w4, w4 = w3.setCell ⟨g, 1, none⟩ (.int .u8 x1) := ⟨_, rfl⟩
  have hc4 : Chg (fun b => b = g) w3 w4 := by rw [hw4]; exact (Chg.refl (fun b => b = g) w3).setCell (p := ⟨g, 1, none⟩) (.int .u8 x1) (fun _ => rfl)
  have HP4 : As (Own w4 base 85 .u8 (.slice (some ⟨g, 0, none⟩) 22 22) [3, x1, 0, 0, 0, 0, 0, 0, 0, 0, 0, 0, 0, 0, 0, 0, 0, 0, 0, 0, 0, 0]) := ⟨by rw [hw4]; exact own_set HP3.out 1 x1⟩
  have HO4 : As (Own w4 base 79 .u8 (.slice (some ⟨w.heap.size, 0, none⟩) 19 19) [x1, x2, x3, x4, x5, x6, x7, x8, x9, x10, 0, 0, 0, 0, 0, 0, 0, 0, 0]) := ⟨own_chg HO3.out hc4 (fun b hb e => by simp [Value.ownBlock] at hb; omega)⟩
  rw [← hw4]
  clear hw4
  obtain ⟨r0, _⟩ := own_at HP4.out 0 (by simp)
  simp [rd] at r0
  have HC4 := As.mk hc4
  have HSA : As (∀ w', Chg NoB w4 w' → Calls Tryd.prog 25 #[.pointer (some ⟨g, 0, none⟩)] w' fun e w'' => e = .returned (.slice (some ⟨g, 2, none⟩) 8 16) ∧ w'' = w') := ⟨fun w' h => salt_any g 3 w' (by omega) ((h.cell (p := ⟨g, 0, none⟩) (Nat.lt_of_lt_of_le HGB.out.2.2.2.1 HC4.out.size) (fun e => e)).trans r0)⟩
  have HRY : As (∀ w', Chg NoB w4 w' → Rb w' (some ⟨w.heap.size, 1, none⟩) [x2, x3, x4, x5, x6, x7, x8, x9]) := ⟨fun w' h => by
    have h1 := own_reads (own_keep HO4.out h)
    have h2 := (h1.drop_ 1).take_ 8
    rwa [show ((some ⟨w.heap.size, 0, none⟩ : Option Addr).map (·.add 1)) = some ⟨w.heap.size, 1, none⟩ from congrArg some (add_lit0 _ _)] at h2⟩
  have HB4 : As (Chg NoB w4 w4) := ⟨Chg.refl _ _⟩
  clear r0 hc4 p0 pf0 p1 pf1 p18 pf18 q0 q9
  go_cut [5] (fun s5 wx => As (Chg (fun b => b = g) w4 wx) ∧ As (Own wx base 85 .u8 (.slice (some ⟨g, 0, none⟩) 22 22) [3, x1, x2, x3, x4, x5, x6, x7, x8, x9, 0, 0, 0, 0, 0, 0, 0, 0, 0, 0, 0, 0]))
  case first =>
    go_region_held3 (fun _ => True) (trivial) (first
      | (go_at_call 25
         refine (HSA.out _ ?r1).mono ?_
         case r1 => exact (by repeat (first | exact HB4.out | (with_reducible apply Chg.drew) | (with_reducible apply Chg.alloc)))
         rintro e w5 ⟨rfl, hw5⟩
         subst hw5)
      | (refine step_copy_rk (N := 79) rfl rfl _ _ 22 22 rfl base 5 .u8 Tryd.underlying22 size8 g 22 [3, x1, 0, 0, 0, 0, 0, 0, 0, 0, 0, 0, 0, 0, 0, 0, 0, 0, 0, 0, 0, 0] (own_keep HP4.out ?r1) (some ⟨g, 2, none⟩) 2 8 16 (by simp) rfl (fun _ => rfl) (some ⟨w.heap.size, 1, none⟩) [x2, x3, x4, x5, x6, x7, x8, x9] 8 _ rfl rfl (HRY.out _ ?r2) ?_
         case r1 => exact (by repeat (first | exact HB4.out | (with_reducible apply Chg.drew) | (with_reducible apply Chg.alloc)))
         case r2 => exact (by repeat (first | exact HB4.out | (with_reducible apply Chg.drew) | (with_reducible apply Chg.alloc)))
         intro w6 ho6 hg6
         have HC6 : As (Chg (fun b => b = g) w4 w6) := ⟨Chg.trans (Chg.mono (S := NoB) (by repeat (first | exact HB4.out | (with_reducible apply Chg.drew) | (with_reducible apply Chg.alloc))) (fun _ _ e => e.elim)) (grown_chg hg6) (fun i hi e => (Option.some.inj e).symm)⟩
         have HO6 : As (Own w6 base 85 .u8 (.slice (some ⟨g, 0, none⟩) 22 22) [3, x1, x2, x3, x4, x5, x6, x7, x8, x9, 0, 0, 0, 0, 0, 0, 0, 0, 0, 0, 0, 0]) := ⟨ho6⟩
         clear ho6 hg6))
    all_goals
      go_wp2_with fail
      go_meet
      exact ⟨HC6, HO6⟩
  case rest =>
    obtain ⟨HC6, HO6⟩ := hcut
    obtain ⟨_, pf18⟩ := own_at HO6.out 18 (by simp)
    obtain ⟨q9, _⟩ := own_at (own_chg HO4.out HC6.out (fun b hb e => by simp [Value.ownBlock] at hb; omega)) 9 (by simp)
    simp [rd] at q9
    go_wp2_with fail
    go_ret2
    have hcs := (HC4.out.trans HC6.out (fun _ _ e => e)).setCell (p := ⟨g, 18, none⟩) (.int .u8 x10) (fun _ => rfl)
    exact ⟨HC3.out.trans hcs (fun i hi e => by have := HGB.out; omega), g, rfl, by have := HGB.out; omega, own_set HO6.out 18 x10, HSR3.out.chg hcs (fun e => by have := HGB.out; omega) (fun b hb e => by have := HGB.out; omega)⟩
set_option maxRecDepth 100000 in
set_option maxHeartbeats 4000000 in
theorem parse_4 (base s : Nat) (sp : Int) (w : World) (a0 a1 : Addr) (hS : Sent w a0 a1) (hB : 0 < base ∧ 1 < base ∧ a0.block < base ∧ a1.block < base) (hbs : base ≤ s) (x1 x2 x3 x4 x5 x6 x7 x8 x9 x10 x11 x12 x13 x14 x15 x16 x17 x18 x19 : Int) (rest : List Int) (hs : Src w base s (4 :: x1 :: x2 :: x3 :: x4 :: x5 :: x6 :: x7 :: x8 :: x9 :: x10 :: x11 :: x12 :: x13 :: x14 :: x15 :: x16 :: x17 :: x18 :: x19 :: rest) sp) (hxl : (4 :: x1 :: x2 :: x3 :: x4 :: x5 :: x6 :: x7 :: x8 :: x9 :: x10 :: x11 :: x12 :: x13 :: x14 :: x15 :: x16 :: x17 :: x18 :: x19 :: rest : List Int).length ≤ 2097152) (m : Nat) (hm : m ≤ 31) (hx19 : x19 = (m : Int)) (hp : x17 ≠ 0) (hy : x18 ≠ 0) (hy0 : 0 ≤ x18) (hy1 : x18 ≤ 255) (hv : x18 * 8 ≤ ((2 ^ m : Nat) : Int)) :
    Calls Tryd.prog 19 #[.iface 58 (.pointer (some ⟨s, 0, none⟩))] w (ParsedOf w base s [4, 0, x1, x2, x3, x4, x5, x6, x7, x8, x9, x10, x11, x12, x13, x14, x15, x16, 0, x17, x18, x19] rest sp) := by
  have HV := As.mk (And.intro hm (And.intro hp (And.intro hy (And.intro hy0 (And.intro hy1 hv)))))
  have HX19 := As.mk hx19
  clear hm hx19 hp hy hy0 hy1 hv
  have HS := As.mk hS
  have HB := As.mk hB
  have HSR := As.mk hs
  have HXL : As ((4 :: x1 :: x2 :: x3 :: x4 :: x5 :: x6 :: x7 :: x8 :: x9 :: x10 :: x11 :: x12 :: x13 :: x14 :: x15 :: x16 :: x17 :: x18 :: x19 :: rest : List Int).length ≤ 2097152) := ⟨hxl⟩
  have hsl : s < w.heap.size := by obtain ⟨A, c, hb, _⟩ := hs; exact hb.lt
  clear hS hB hs hxl
  go_enter Tryd.func19, Tryd.ntmps19
  go_wp2_with fail
  have hc0 : Chg NoB w (w.alloc (.cells (nums .u8 [0, 0, 0, 0, 0, 0, 0, 0, 0, 0, 0, 0, 0, 0, 0, 0, 0, 0, 0]).toArray 79)) := (Chg.refl NoB w).alloc _
  refine (readPart_any 79 base s w.heap.size 19 19 19 1 (4 :: x1 :: x2 :: x3 :: x4 :: x5 :: x6 :: x7 :: x8 :: x9 :: x10 :: x11 :: x12 :: x13 :: x14 :: x15 :: x16 :: x17 :: x18 :: x19 :: rest) [0, 0, 0, 0, 0, 0, 0, 0, 0, 0, 0, 0, 0, 0, 0, 0, 0, 0, 0] sp _ a0 a1 (HS.out.keep hc0) HB.out (HSR.out.keep hc0) (own_lit w base 79 .u8 [0, 0, 0, 0, 0, 0, 0, 0, 0, 0, 0, 0, 0, 0, 0, 0, 0, 0, 0] (by omega) (by simp [maxLen])) rfl (by omega) (by omega) hbs (by omega) (by omega) HXL.out (by omega)).mono ?_
  rintro e w1 ⟨hc1, hm1⟩
  have hcA : Chg (fun b => b = s) w w1 := (hc0.mono (fun _ _ e => e.elim)).trans hc1 (fun i hi e => by rcases e with e | e <;> omega)
  rcases hm1 with ⟨_, rfl, h3, h4⟩ | ⟨hbad, _⟩
  rotate_left
  · simp at hbad
  have hgl : w.heap.size < w1.heap.size := Nat.lt_of_lt_of_le (by simp) hc1.size
  obtain ⟨k0, f0⟩ := own_at h4 0 (by simp)
  simp [rd] at k0
  have HSR1 := As.mk h3
  have HO1 := As.mk h4
  have HCA := As.mk hcA
  clear hc0 hc1 hcA h3 h4
  go_wp2_with fail
  obtain ⟨w2, hw2⟩ : ∃ w2, w2 = w1.alloc (.cells #[.int .u8 4, .int .u8 0, .int .u8 0, .int .u8 0, .int .u8 0, .int .u8 0, .int .u8 0, .int .u8 0, .int .u8 0, .int .u8 0, .int .u8 0, .int .u8 0, .int .u8 0, .int .u8 0, .int .u8 0, .int .u8 0, .int .u8 0, .int .u8 0, .int .u8 0, .int .u8 0, .int .u8 0, .int .u8 0] 85) := ⟨_, rfl⟩
  have hc2 : Chg NoB w1 w2 := by rw [hw2]; exact (Chg.refl NoB w1).alloc _
  have hop : Own w2 base 85 .u8 (.slice (some ⟨w1.heap.size, 0, none⟩) 22 22) [4, 0, 0, 0, 0, 0, 0, 0, 0, 0, 0, 0, 0, 0, 0, 0, 0, 0, 0, 0, 0, 0] := by rw [hw2]; exact own_lit w1 base 85 .u8 [4, 0, 0, 0, 0, 0, 0, 0, 0, 0, 0, 0, 0, 0, 0, 0, 0, 0, 0, 0, 0, 0] (by have := HCA.out.size; omega) (by simp [maxLen])
  have HOP := As.mk hop
  have HC2 : As (Chg (fun b => b = s) w w2) := ⟨HCA.out.trans hc2 (fun _ _ e => e.elim)⟩
  have hS2 : Sent w2 a0 a1 := HS.out.chg HB.out HC2.out (fun i hi e => by omega)
  have HSR2 := As.mk (HSR1.out.keep hc2)
  have HO2 := As.mk (own_keep HO1.out hc2)
  have hsz2 : w1.heap.size < w2.heap.size := (own_blocks hop).2
  rw [← hw2]
  clear hw2 hc2 hop k0 f0
  refine (readPart_any 79 base s w.heap.size 19 19 19 19 (x1 :: x2 :: x3 :: x4 :: x5 :: x6 :: x7 :: x8 :: x9 :: x10 :: x11 :: x12 :: x13 :: x14 :: x15 :: x16 :: x17 :: x18 :: x19 :: rest) [4, 0, 0, 0, 0, 0, 0, 0, 0, 0, 0, 0, 0, 0, 0, 0, 0, 0, 0] sp _ a0 a1 hS2 HB.out HSR2.out HO2.out rfl (by omega) (by omega) hbs (by omega) (by omega) (by have := HXL.out; simp at this ⊢; omega) (by omega)).mono ?_
  rintro e w3 ⟨hc3, hm3⟩
  rcases hm3 with ⟨_, rfl, h3, h4⟩ | ⟨hbad, _⟩
  rotate_left
  · exfalso; simp only [List.length_cons] at hbad; omega
  have HC3 : As (Chg (fun b => b = s) w w3) := ⟨HC2.out.trans hc3 (fun i hi e => by rcases e with e | e <;> omega)⟩
  have hg23 : Chg (fun b => b = s ∨ b = w.heap.size) w2 w3 := hc3
  have hgb : w1.heap.size ≠ s ∧ w1.heap.size ≠ w.heap.size := by have := HCA.out.size; omega
  have hop3 : Own w3 base 85 .u8 (.slice (some ⟨w1.heap.size, 0, none⟩) 22 22) [4, 0, 0, 0, 0, 0, 0, 0, 0, 0, 0, 0, 0, 0, 0, 0, 0, 0, 0, 0, 0, 0] := own_chg HOP.out hg23 (fun b hb e => by simp [Value.ownBlock] at hb; omega)
  have HO3 : As (Own w3 base 79 .u8 (.slice (some ⟨w.heap.size, 0, none⟩) 19 19) [x1, x2, x3, x4, x5, x6, x7, x8, x9, x10, x11, x12, x13, x14, x15, x16, x17, x18, x19]) := ⟨h4⟩
  have HSR3 : As (Src w3 base s rest sp) := ⟨h3⟩
  have HP3 := As.mk hop3
  have HGB : As (w1.heap.size ≠ s ∧ w1.heap.size ≠ w.heap.size ∧ w.heap.size ≤ w1.heap.size ∧ w1.heap.size < w3.heap.size ∧ w.heap.size ≠ s) := ⟨by have := HCA.out.size; have := (own_blocks hop3).2; omega⟩
  obtain ⟨q16, _⟩ := own_at HO3.out 16 (by simp)
  simp [rd] at q16
  obtain ⟨q17, _⟩ := own_at HO3.out 17 (by simp)
  simp [rd] at q17
  obtain ⟨q18, _⟩ := own_at HO3.out 18 (by simp)
  simp [rd] at q18
  obtain ⟨p0, pf0⟩ := own_at hop3 0 (by simp)
  simp [rd] at p0
  obtain ⟨p19, pf19⟩ := own_at hop3 19 (by simp)
  simp [rd] at p19
  obtain ⟨p20, pf20⟩ := own_at hop3 20 (by simp)
  simp [rd] at p20
  obtain ⟨p21, pf21⟩ := own_at hop3 21 (by simp)
  simp [rd] at p21
  generalize w1.heap.size = g at *
  have hgn : g ≠ w.heap.size := HGB.out.2.1
  clear h3 h4 hc3 hg23 hop3 hgb hS2 hsz2
  go_upto_region 31 with fail
  obtain ⟨w4, hw4⟩ : ∃ w4, w4 = w3 := ⟨_, rfl⟩
  have hc4 : Chg (fun b => b = g) w3 w4 := by rw [hw4]; exact Chg.refl _ _
  have HP4 : As (Own w4 base 85 .u8 (.slice (some ⟨g, 0, none⟩) 22 22) [4, 0, 0, 0, 0, 0, 0, 0, 0, 0, 0, 0, 0, 0, 0, 0, 0, 0, 0, 0, 0, 0]) := ⟨by rw [hw4]; exact HP3.out⟩
  have HO4 : As (Own w4 base 79 .u8 (.slice (some ⟨w.heap.size, 0, none⟩) 19 19) [x1, x2, x3, x4, x5, x6, x7, x8, x9, x10, x11, x12, x13, x14, x15, x16, x17, x18, x19]) := ⟨by rw [hw4]; exact HO3.out⟩
  rw [← hw4]
  clear hw4
  obtain ⟨r0, _⟩ := own_at HP4.out 0 (by simp)
  simp [rd] at r0
  have HC4 := As.mk hc4
  have HSA : As (∀ w', Chg NoB w4 w' → Calls Tryd.prog 25 #[.pointer (some ⟨g, 0, none⟩)] w' fun e w'' => e = .returned (.slice (some ⟨g, 2, none⟩) 16 16) ∧ w'' = w') := ⟨fun w' h => salt_any g 4 w' (by omega) ((h.cell (p := ⟨g, 0, none⟩) (Nat.lt_of_lt_of_le HGB.out.2.2.2.1 HC4.out.size) (fun e => e)).trans r0)⟩
  have HRY : As (∀ w', Chg NoB w4 w' → Rb w' (some ⟨w.heap.size, 0, none⟩) [x1, x2, x3, x4, x5, x6, x7, x8, x9, x10, x11, x12, x13, x14, x15, x16]) := ⟨fun w' h => by
    have h1 := own_reads (own_keep HO4.out h)
    have h2 := (h1.drop_ 0).take_ 16
    rwa [show ((some ⟨w.heap.size, 0, none⟩ : Option Addr).map (·.add 0)) = some ⟨w.heap.size, 0, none⟩ from congrArg some (add_lit0 _ _)] at h2⟩
  have HB4 : As (Chg NoB w4 w4) := ⟨Chg.refl _ _⟩
  clear r0 hc4 p0 pf0 p19 pf19 p20 pf20 p21 pf21 q16 q17 q18
  go_cut [5] (fun s5 wx => As (Chg (fun b => b = g) w4 wx) ∧ As (Own wx base 85 .u8 (.slice (some ⟨g, 0, none⟩) 22 22) [4, 0, x1, x2, x3, x4, x5, x6, x7, x8, x9, x10, x11, x12, x13, x14, x15, x16, 0, 0, 0, 0]))
  case first =>
    go_region_held3 (fun _ => True) (trivial) (first
      | (go_at_call 25
         refine (HSA.out _ ?r1).mono ?_
         case r1 => exact (by repeat (first | exact HB4.out | (with_reducible apply Chg.drew) | (with_reducible apply Chg.alloc)))
         rintro e w5 ⟨rfl, hw5⟩
         subst hw5)
      | (refine step_copy_rk (N := 100) rfl rfl _ _ 22 22 rfl base 5 .u8 Tryd.underlying22 size8 g 22 [4, 0, 0, 0, 0, 0, 0, 0, 0, 0, 0, 0, 0, 0, 0, 0, 0, 0, 0, 0, 0, 0] (own_keep HP4.out ?r1) (some ⟨g, 2, none⟩) 2 16 16 (by simp) rfl (fun _ => rfl) (some ⟨w.heap.size, 0, none⟩) [x1, x2, x3, x4, x5, x6, x7, x8, x9, x10, x11, x12, x13, x14, x15, x16] 16 _ rfl rfl (HRY.out _ ?r2) ?_
         case r1 => exact (by repeat (first | exact HB4.out | (with_reducible apply Chg.drew) | (with_reducible apply Chg.alloc)))
         case r2 => exact (by repeat (first | exact HB4.out | (with_reducible apply Chg.drew) | (with_reducible apply Chg.alloc)))
         intro w6 ho6 hg6
         have HC6 : As (Chg (fun b => b = g) w4 w6) := ⟨Chg.trans (Chg.mono (S := NoB) (by repeat (first | exact HB4.out | (with_reducible apply Chg.drew) | (with_reducible apply Chg.alloc))) (fun _ _ e => e.elim)) (grown_chg hg6) (fun i hi e => (Option.some.inj e).symm)⟩
         have HO6 : As (Own w6 base 85 .u8 (.slice (some ⟨g, 0, none⟩) 22 22) [4, 0, x1, x2, x3, x4, x5, x6, x7, x8, x9, x10, x11, x12, x13, x14, x15, x16, 0, 0, 0, 0]) := ⟨ho6⟩
         clear ho6 hg6))
    all_goals
      go_wp2_with fail
      go_meet
      exact ⟨HC6, HO6⟩
  case rest =>
    obtain ⟨HC6, HO6⟩ := hcut
    obtain ⟨_, pf19⟩ := own_at HO6.out 19 (by simp)
    obtain ⟨_, pf20⟩ := own_at HO6.out 20 (by simp)
    obtain ⟨_, pf21⟩ := own_at HO6.out 21 (by simp)
    have HO7 := As.mk (own_chg HO4.out HC6.out (fun b hb e => by simp [Value.ownBlock] at hb; omega))
    obtain ⟨q16, _⟩ := own_at HO7.out 16 (by simp)
    obtain ⟨q17, _⟩ := own_at HO7.out 17 (by simp)
    obtain ⟨q18, _⟩ := own_at HO7.out 18 (by simp)
    simp [rd] at q16 q17 q18
    go_wp2_with fail
    obtain ⟨w8, hw8⟩ : ∃ w8, w8 = ((wc.setCell ⟨g, 19, none⟩ (.int .u8 x17)).setCell ⟨g, 20, none⟩ (.int .u8 x18)).setCell ⟨g, 21, none⟩ (.int .u8 x19) := ⟨_, rfl⟩
    have ho8 : Own w8 base 85 .u8 (.slice (some ⟨g, 0, none⟩) 22 22) [4, 0, x1, x2, x3, x4, x5, x6, x7, x8, x9, x10, x11, x12, x13, x14, x15, x16, 0, x17, x18, x19] := by rw [hw8]; exact own_set (own_set (own_set HO6.out 19 x17) 20 x18) 21 x19
    have hcs : Chg (fun b => b = g) wc w8 := by rw [hw8]; exact (((Chg.refl (fun b => b = g) wc).setCell (p := ⟨g, 19, none⟩) (.int .u8 x17) (fun _ => rfl)).setCell (p := ⟨g, 20, none⟩) (.int .u8 x18) (fun _ => rfl)).setCell (p := ⟨g, 21, none⟩) (.int .u8 x19) (fun _ => rfl)
    have HCF := As.mk ((HC4.out.trans HC6.out (fun _ _ e => e)).trans hcs (fun _ _ e => e))
    have HO8 := As.mk ho8
    obtain ⟨v19, _⟩ := own_at ho8 19 (by simp)
    obtain ⟨v20, _⟩ := own_at ho8 20 (by simp)
    obtain ⟨v21, _⟩ := own_at ho8 21 (by simp)
    simp [rd] at v19 v20 v21
    rw [HX19.out] at v21
    rw [← hw8]
    clear hw8 ho8 hcs
    refine (validate_ok g m x17 x18 _ HV.out.1 HV.out.2.1 HV.out.2.2.1 HV.out.2.2.2.1 HV.out.2.2.2.2.1 HV.out.2.2.2.2.2 v19 v20 v21).mono ?_
    rintro e w9 ⟨rfl, nn, rfl⟩
    go_wp2_with fail
    go_ret2
    exact ⟨(HC3.out.trans HCF.out (fun i hi e => by have := HGB.out; omega)).drewN nn, g, rfl, by have := HGB.out; omega, own_keep HO8.out ((Chg.refl _ _).drewN nn), (HSR3.out.chg HCF.out (fun e => by have := HGB.out; omega) (fun b hb e => by have := HGB.out; omega)).keep ((Chg.refl _ _).drewN nn)⟩
end Go.Proofs.YthambncffcphkaaDoor
