/- impl.fields: what the package makes of a signature of which only its version, its kind, its time and its mark as primary are given. Printed by wip/fields.py. -/
import Derived.Test.YtdcamebmbadmbaaTime
import Derived.Test.YtdcamebmbadmbaaSigZero
import Derived.Deep.RegionHeld3
import Derived.Deep.Cut
set_option linter.unusedVariables false
set_option linter.unusedSimpArgs false
namespace Go.Proofs.Ytdcamebmbadmbaa
open Go.RowKit V
theorem wp_world {P : Program} {code : Code} {Q : Exit → Act → World → Prop} {a : Act} {w : World} (R : World → Prop) (h : R w) (k : ∀ w', R w' → code.wp P Q a w') : code.wp P Q a w := k w h
theorem cells_get {cs : Array Value} {i : Nat} {u : Value} (h : cs.toList[i]? = some u) : cs.modify i (fun _ => u) = cs := by
  apply Array.ext
  · simp
  · intro j h1 h2
    rw [Array.getElem_modify]
    split
    · rename_i e
      subst e
      rw [← Array.getElem_toList] 
      have := List.getElem?_eq_getElem (l := cs.toList) (i := i) (by simpa using h2)
      rw [this] at h
      injection h with h
      exact h.symm
    · rfl
theorem Blk.same {w : World} {g : Nat} {t : TypeId} {cs : List Value} (h : Blk w g t cs) {i : Nat} {u : Value} (hu : cs[i]? = some u) : Blk (w.setCell ⟨g, i, none⟩ u) g t cs := by
  have := h.set_ i u
  have e : cs.set i u = cs := by
    apply List.ext_getElem?
    intro j
    by_cases hj : i = j
    · subst hj
      have hl : i < cs.length := (List.getElem?_eq_some_iff.1 hu).1
      rw [List.getElem?_set_self hl, hu]
    · rw [List.getElem?_set_ne hj]
  rwa [e] at this
/-- The block of the data, the block that is made of it. -/
structure FS (w0 w2 : World) (b g : Nat) (is cs : List Value) (w : World) : Prop where
  lb : w0.heap.size ≤ b
  lg : b < g
  bi : Blk w b 41 is
  bo : Blk w g 95 cs
  ch : Chg NoB w0 w
  c2 : Chg (fun i => i = g) w2 w
section
variable {w0 w2 w w1 : World} {b g : Nat} {is cs : List Value}
theorem FS.next (h : FS w0 w2 b g is cs w) (c : Chg NoB w w1) : FS w0 w2 b g is cs w1 := ⟨h.lb, h.lg, h.bi.chg c (fun e => e), h.bo.chg c (fun e => e), h.ch.trans c (fun _ _ e => e), h.c2.trans c (fun _ _ e => e.elim)⟩
theorem FS.alloc (h : FS w0 w2 b g is cs w) (o : Obj) : FS w0 w2 b g is cs (w.alloc o) := h.next ((Chg.refl _ _).alloc o)
theorem FS.drew (h : FS w0 w2 b g is cs w) : FS w0 w2 b g is cs w.drew := h.next ((Chg.refl _ _).drew)
theorem FS.drewN (h : FS w0 w2 b g is cs w) (n : Nat) : FS w0 w2 b g is cs (w.drewN n) := h.next ((Chg.refl _ _).drewN n)
theorem FS.put (h : FS w0 w2 b g is cs w) (i : Nat) (u : Value) : FS w0 w2 b g is (cs.set i u) (w.setCell ⟨g, i, none⟩ u) :=
  ⟨h.lb, h.lg, h.bi.far (fun e => by have := h.lg; simp at e; omega) u, h.bo.set_ i u, h.ch.setCell (p := ⟨g, i, none⟩) u (fun hl => absurd (show g < w0.heap.size from hl) (by have := h.lb; have := h.lg; omega)), h.c2.setCell (p := ⟨g, i, none⟩) u (fun _ => rfl)⟩
theorem FS.same (h : FS w0 w2 b g is cs w) {i : Nat} {u : Value} (hu : cs[i]? = some u) : FS w0 w2 b g is cs (w.setCell ⟨g, i, none⟩ u) :=
  ⟨h.lb, h.lg, h.bi.far (fun e => by have := h.lg; simp at e; omega) u, Blk.same h.bo hu, h.ch.setCell (p := ⟨g, i, none⟩) u (fun hl => absurd (show g < w0.heap.size from hl) (by have := h.lb; have := h.lg; omega)), h.c2.setCell (p := ⟨g, i, none⟩) u (fun _ => rfl)⟩
end
set_option maxHeartbeats 400000 in
theorem pointer_nil (n : Int) (w : World) : Calls Try.prog 19 #[.agg #[.bool false, .int .u64 n]] w fun e w' => e = .returned (.pointer none) ∧ Chg NoB w w' := by
  go_enter Try.func19, Try.ntmps19
  go_wp2_with fail
  go_ret
  exact ⟨rfl, (Chg.refl NoB w).alloc _⟩
set_option maxHeartbeats 400000 in
theorem text_nil (s : ByteArray) (w : World) : Calls Try.prog 20 #[.agg #[.bool false, .string s]] w fun e w' => e = .returned (.pointer none) ∧ Chg NoB w w' := by
  go_enter Try.func20, Try.ntmps20
  go_wp2_with fail
  go_ret
  exact ⟨rfl, (Chg.refl NoB w).alloc _⟩
/-- A signature as data: its version 4, its kind, its time. -/
def inCells (k t : Int) : List Value := [.int .i64 4, .int .u8 k, .int .u8 0, .int .i64 0, .slice none 0 0, .slice none 0 0, .slice none 0 0, .bool true, .int .u64 t, .slice none 0 0, .bool false, .int .u64 0, .bool false, .int .u64 0, .slice none 0 0, .slice none 0 0, .slice none 0 0, .slice none 0 0, .bool false, .int .u64 0, .int .u8 0, .slice none 0 0, .bool false, .string ⟨#[]⟩, .bool false, .int .u64 0, .slice none 0 0, .slice none 0 0, .int .u8 0, .int .u8 0, .bool false, .string ⟨#[]⟩, .bool false, .bool false, .string ⟨#[]⟩, .string ⟨#[]⟩, .bool false, .int .u8 0, .bool false, .int .u64 0, .string ⟨#[]⟩, .bool false, .bool false, .slice none 0 0, .slice none 0 0]
def inZero : List Value := [.int .i64 0, .int .u8 0, .int .u8 0, .int .i64 0, .slice none 0 0, .slice none 0 0, .slice none 0 0, .bool false, .int .u64 0, .slice none 0 0, .bool false, .int .u64 0, .bool false, .int .u64 0, .slice none 0 0, .slice none 0 0, .slice none 0 0, .slice none 0 0, .bool false, .int .u64 0, .int .u8 0, .slice none 0 0, .bool false, .string ⟨#[]⟩, .bool false, .int .u64 0, .slice none 0 0, .slice none 0 0, .int .u8 0, .int .u8 0, .bool false, .string ⟨#[]⟩, .bool false, .bool false, .string ⟨#[]⟩, .string ⟨#[]⟩, .bool false, .int .u8 0, .bool false, .int .u64 0, .string ⟨#[]⟩, .bool false, .bool false, .slice none 0 0, .slice none 0 0]
/-- .. and its mark as primary. -/
def inCellsP (k t p : Int) : List Value := [.int .i64 4, .int .u8 k, .int .u8 0, .int .i64 0, .slice none 0 0, .slice none 0 0, .slice none 0 0, .bool true, .int .u64 t, .slice none 0 0, .bool false, .int .u64 0, .bool false, .int .u64 0, .slice none 0 0, .slice none 0 0, .slice none 0 0, .slice none 0 0, .bool false, .int .u64 0, .int .u8 0, .slice none 0 0, .bool false, .string ⟨#[]⟩, .bool true, .int .u64 p, .slice none 0 0, .slice none 0 0, .int .u8 0, .int .u8 0, .bool false, .string ⟨#[]⟩, .bool false, .bool false, .string ⟨#[]⟩, .string ⟨#[]⟩, .bool false, .int .u8 0, .bool false, .int .u64 0, .string ⟨#[]⟩, .bool false, .bool false, .slice none 0 0, .slice none 0 0]
/-- A signature as the package has it, q its mark as primary. -/
def outCells (k t : Int) (q : Value) : List Value := [.int .i64 4, .int .u8 k, .int .u8 0, .int .u64 0, .slice none 0 0, .slice none 0 0, .int .u8 0, .int .u8 0, .pointer none, .int .u64 0, .int .i64 (t + 62135596800), .pointer none, .nilIface, .nilIface, .nilIface, .nilIface, .nilIface, .nilIface, .nilIface, .slice none 0 0, .slice none 0 0, .pointer none, .pointer none, .slice none 0 0, .slice none 0 0, .slice none 0 0, .slice none 0 0, .pointer none, .int .u8 0, .slice none 0 0, .pointer none, q, .slice none 0 0, .slice none 0 0, .int .u8 0, .int .u8 0, .pointer none, .bool false, .bool false, .string ⟨#[]⟩, .string ⟨#[]⟩, .bool false, .bool false, .bool false, .bool false, .bool false, .bool false, .bool false, .bool false, .pointer none, .string ⟨#[]⟩, .bool false, .bool false, .pointer none, .slice none 0 0]
def outZero (k : Int) : List Value := [.int .i64 4, .int .u8 k, .int .u8 0, .int .u64 0, .slice none 0 0, .slice none 0 0, .int .u8 0, .int .u8 0, .pointer none, .int .u64 0, .int .i64 0, .pointer none, .nilIface, .nilIface, .nilIface, .nilIface, .nilIface, .nilIface, .nilIface, .slice none 0 0, .slice none 0 0, .pointer none, .pointer none, .slice none 0 0, .slice none 0 0, .slice none 0 0, .slice none 0 0, .pointer none, .int .u8 0, .slice none 0 0, .pointer none, .pointer none, .slice none 0 0, .slice none 0 0, .int .u8 0, .int .u8 0, .pointer none, .bool false, .bool false, .string ⟨#[]⟩, .string ⟨#[]⟩, .bool false, .bool false, .bool false, .bool false, .bool false, .bool false, .bool false, .bool false, .pointer none, .string ⟨#[]⟩, .bool false, .bool false, .pointer none, .slice none 0 0]
theorem outBuilt (k : Int) : Try.prog.built 95 [(0, .int .i64 4), (1, .int .u8 k), (2, .int .u8 0), (3, .int .u64 0)] = some (outZero k).toArray := by kernel_rfl
set_option maxRecDepth 100000 in
set_option maxHeartbeats 4000000 in
theorem fields_plain (k t : Int) (w : World) (h0 : 0 ≤ t) (h1 : t ≤ 4294967296) :
    Calls Try.prog 15 #[.agg (inCells k t).toArray] w fun e w' => ∃ g, e = .returned (.pointer (some ⟨g, 0, none⟩)) ∧ w.heap.size ≤ g ∧ Blk w' g 95 (outCells k t (.pointer none)) ∧ Chg NoB w w' := by
  have hk : IntKind.i64.wrap t = t := by rw [IntKind.wrap_i64]; omega
  have q0 : (inCells k t)[0]? = some (.int .i64 4) := rfl
  have q1 : (inCells k t)[1]? = some (.int .u8 k) := rfl
  have q2 : (inCells k t)[2]? = some (.int .u8 0) := rfl
  have q3 : (inCells k t)[3]? = some (.int .i64 0) := rfl
  go_enter Try.func15, Try.ntmps15
  go_upto_region 2 with ((with_reducible refine gate (N := 20) rfl ?_); refine wpList_built rfl 95 _ rfl (outZero k).toArray ?hc ?_; (case hc => simpa [Act.eval, inCells] using outBuilt k))
  obtain ⟨b, hb⟩ : ∃ b, b = w.heap.size := ⟨_, rfl⟩
  obtain ⟨g, hg⟩ : ∃ g, g = w.heap.size + 1 := ⟨_, rfl⟩
  simp only [← hg]
  simp only [← hb]
  refine wp_world (fun w' => FS w w' b g (inCells k t) (outZero k) w') ?hs ?_
  case hs => exact ⟨by omega, by omega, by rw [hb]; exact (Blk.new w _ _).alloc _, by rw [hg]; have := Blk.new (w.alloc (.cells (inCells k t).toArray 41)) 95 (outZero k); rwa [show (w.alloc (.cells (inCells k t).toArray 41)).heap.size = w.heap.size + 1 from by simp] at this, ((Chg.refl _ _).alloc _).alloc _, Chg.refl _ _⟩
  clear hb hg q0 q1 q2 q3
  intro wz hF
  refine wp_world (FS w wz b g (inCells k t) (outZero k)) hF ?_
  clear hF
  intro wc hF
  have i7 : wc.cell? ⟨b, 7, none⟩ = some (.bool true) := hF.bi.cell 7
  have i8 : wc.cell? ⟨b, 8, none⟩ = some (.int .u64 t) := hF.bi.cell 8
  have o9 : wc.cell? ⟨g, 9, none⟩ = some (.int .u64 0) := hF.bo.cell 9
  have z9 := hF.bo.frozen 9
  have o10 : wc.cell? ⟨g, 10, none⟩ = some (.int .i64 0) := hF.bo.cell 10
  have z10 := hF.bo.frozen 10
  have o11 : wc.cell? ⟨g, 11, none⟩ = some (.pointer none) := hF.bo.cell 11
  have z11 := hF.bo.frozen 11
  have HF := As.mk hF
  clear hF
  go_upto_region 4 with fail
  refine (unix_any t _ h0 h1).mono ?_
  rintro e w1 ⟨rfl, hc1⟩
  have hF := HF.out.next hc1
  clear hc1 HF i7 i8 o9 o10 o11 z9 z10 z11
  have ho := ((hF.put 9 (.int .u64 0)).put 10 (.int .i64 (t + 62135596800))).put 11 (.pointer none)
  have HO : As (FS w wz b g (inCells k t) (outCells k t (.pointer none)) (((w1.setCell ⟨g, 9, none⟩ (.int .u64 0)).setCell ⟨g, 10, none⟩ (.int .i64 (t + 62135596800))).setCell ⟨g, 11, none⟩ (.pointer none))) := ⟨ho⟩
  clear ho
  have o9 : w1.cell? ⟨g, 9, none⟩ = some (.int .u64 0) := hF.bo.cell 9
  have z9 := hF.bo.frozen 9
  have o10 : w1.cell? ⟨g, 10, none⟩ = some (.int .i64 0) := hF.bo.cell 10
  have z10 := hF.bo.frozen 10
  have o11 : w1.cell? ⟨g, 11, none⟩ = some (.pointer none) := hF.bo.cell 11
  have z11 := hF.bo.frozen 11
  clear hF
  simp only [tmCells]
  go_upto_region 4 with fail
  refine wp_world (FS w wz b g (inCells k t) (outCells k t (.pointer none))) ?hs ?_
  case hs => exact HO.out
  intro wc hF
  clear HO o9 o10 o11 z9 z10 z11 hk
  have HS := As.mk hF
  have KP : As (∀ w', FS w wz b g (inCells k t) (outCells k t (.pointer none)) w' → w'.cell? ⟨b, 10, none⟩ = some (.bool false) ∧ w'.cell? ⟨b, 11, none⟩ = some (.int .u64 0) ∧ w'.cell? ⟨b, 12, none⟩ = some (.bool false) ∧ w'.cell? ⟨b, 13, none⟩ = some (.int .u64 0) ∧ w'.cell? ⟨g, 21, none⟩ = some (.pointer none) ∧ w'.cell? ⟨g, 22, none⟩ = some (.pointer none) ∧ w'.frozen? ⟨g, 21, none⟩ = false ∧ w'.frozen? ⟨g, 22, none⟩ = false) := ⟨fun w' h => ⟨h.bi.cell 10, h.bi.cell 11, h.bi.cell 12, h.bi.cell 13, h.bo.cell 21, h.bo.cell 22, h.bo.frozen 21, h.bo.frozen 22⟩⟩
  clear hF
  go_region_held3 (fun w' => w'.cell? ⟨b, 10, none⟩ = some (.bool false) ∧ w'.cell? ⟨b, 11, none⟩ = some (.int .u64 0) ∧ w'.cell? ⟨b, 12, none⟩ = some (.bool false) ∧ w'.cell? ⟨b, 13, none⟩ = some (.int .u64 0) ∧ w'.cell? ⟨g, 21, none⟩ = some (.pointer none) ∧ w'.cell? ⟨g, 22, none⟩ = some (.pointer none) ∧ w'.frozen? ⟨g, 21, none⟩ = false ∧ w'.frozen? ⟨g, 22, none⟩ = false) (exact KP.out _ (by repeat (first | (with_reducible exact HS.out) | (refine FS.same ?_ rfl) | (with_reducible apply FS.alloc) | (with_reducible apply FS.drew) | (with_reducible apply FS.drewN)))) (first
    | (go_simp
       refine (pointer_nil 0 _).mono ?_
       rintro e44 w44 ⟨rfl, hc44⟩
       have HS44 : As (FS w wz b g (inCells k t) (outCells k t (.pointer none)) w44) := ⟨FS.next (by repeat (first | (with_reducible exact HS.out) | (refine FS.same ?_ rfl) | (with_reducible apply FS.alloc) | (with_reducible apply FS.drew) | (with_reducible apply FS.drewN))) hc44⟩
       clear hc44 HS
       have HS := HS44
       clear HS44))
  go_upto_region 5 with fail
  have HF := HS
  clear HS KP
  refine wp_world (FS w wz b g (inCells k t) (outCells k t (.pointer none))) ?hs ?_
  case hs => repeat (first | (with_reducible exact HF.out) | (refine FS.same ?_ rfl) | (with_reducible apply FS.alloc) | (with_reducible apply FS.drew) | (with_reducible apply FS.drewN))
  intro wc hF
  have HF := As.mk hF
  clear hF
  have i14 : wc.cell? ⟨b, 14, none⟩ = some (.slice none 0 0) := HF.out.bi.cell 14
  have i15 : wc.cell? ⟨b, 15, none⟩ = some (.slice none 0 0) := HF.out.bi.cell 15
  have i16 : wc.cell? ⟨b, 16, none⟩ = some (.slice none 0 0) := HF.out.bi.cell 16
  have o23 : wc.cell? ⟨g, 23, none⟩ = some (.slice none 0 0) := HF.out.bo.cell 23
  have z23 := HF.out.bo.frozen 23
  have o24 : wc.cell? ⟨g, 24, none⟩ = some (.slice none 0 0) := HF.out.bo.cell 24
  have z24 := HF.out.bo.frozen 24
  have o25 : wc.cell? ⟨g, 25, none⟩ = some (.slice none 0 0) := HF.out.bo.cell 25
  have z25 := HF.out.bo.frozen 25
  go_wp2_with fail
  go_loopw [4] (fun v4 w' => v4 = .int .i64 0 ∧ As (FS w wz b g (inCells k t) (outCells k t (.pointer none)) w')) (fun _ _ => 0)
  case atStart => exact ⟨rfl, ⟨by repeat (first | (with_reducible exact HF.out) | (refine FS.same ?_ rfl) | (with_reducible apply FS.alloc) | (with_reducible apply FS.drew) | (with_reducible apply FS.drewN))⟩⟩
  case round =>
    obtain ⟨rfl, HF⟩ := hrel
    have i17 : wr.cell? ⟨b, 17, none⟩ = some (.slice none 0 0) := HF.out.bi.cell 17
    go_upto_region 10 with fail
    refine wp_world (FS w wz b g (inCells k t) (outCells k t (.pointer none))) HF.out ?_
    intro wc hF
    clear HF i17
    have HF := As.mk hF
    clear hF
    have i18 : wc.cell? ⟨b, 18, none⟩ = some (.bool false) := HF.out.bi.cell 18
    have i20 : wc.cell? ⟨b, 20, none⟩ = some (.int .u8 0) := HF.out.bi.cell 20
    have i21 : wc.cell? ⟨b, 21, none⟩ = some (.slice none 0 0) := HF.out.bi.cell 21
    have o28 : wc.cell? ⟨g, 28, none⟩ = some (.int .u8 0) := HF.out.bo.cell 28
    have z28 := HF.out.bo.frozen 28
    go_upto_region 15 with fail
    refine wp_world (FS w wz b g (inCells k t) (outCells k t (.pointer none))) ?hs ?_
    case hs => repeat (first | (with_reducible exact HF.out) | (refine FS.same ?_ rfl) | (with_reducible apply FS.alloc) | (with_reducible apply FS.drew) | (with_reducible apply FS.drewN))
    intro wc hF
    clear HF i18 i20 i21 o28 z28
    have HF := As.mk hF
    clear hF
    have i22 : wc.cell? ⟨b, 22, none⟩ = some (.bool false) := HF.out.bi.cell 22
    have i23 : wc.cell? ⟨b, 23, none⟩ = some (.string ⟨#[]⟩) := HF.out.bi.cell 23
    go_upto_region 16 with fail
    refine (text_nil _ _).mono ?_
    rintro e w2 ⟨rfl, hc2⟩
    have HF2 := As.mk (HF.out.next hc2)
    clear hc2 HF i22 i23
    have HF := HF2
    clear HF2
    have o30 : w2.cell? ⟨g, 30, none⟩ = some (.pointer none) := HF.out.bo.cell 30
    have z30 := HF.out.bo.frozen 30
    go_upto_region 16 with fail
    refine wp_world (FS w wz b g (inCells k t) (outCells k t (.pointer none))) ?hs ?_
    case hs => repeat (first | (with_reducible exact HF.out) | (refine FS.same ?_ rfl) | (with_reducible apply FS.alloc) | (with_reducible apply FS.drew) | (with_reducible apply FS.drewN))
    intro wc hF
    clear HF  o30 z30
    have HF := As.mk hF
    clear hF
    have i24 : wc.cell? ⟨b, 24, none⟩ = some (.bool false) := HF.out.bi.cell 24
    have i26 : wc.cell? ⟨b, 26, none⟩ = some (.slice none 0 0) := HF.out.bi.cell 26
    go_wp2_with fail
    go_loopw [7, 130] (fun v7 v130 w' => v130 = .int .i64 0 ∧ As (FS w wz b g (inCells k t) (outCells k t (.pointer none)) w')) (fun _ _ _ => 0)
    case atStart => exact ⟨rfl, ⟨by repeat (first | (with_reducible exact HF.out) | (refine FS.same ?_ rfl) | (with_reducible apply FS.alloc) | (with_reducible apply FS.drew) | (with_reducible apply FS.drewN))⟩⟩
    case round =>
      obtain ⟨rfl, HF⟩ := hrel
      go_upto_region 24 with fail
      have i27 : wr.cell? ⟨b, 27, none⟩ = some (.slice none 0 0) := HF.out.bi.cell 27
      go_wp2_with fail
      go_loopw [9, 157] (fun v9 v157 w' => v157 = .int .i64 0 ∧ As (FS w wz b g (inCells k t) (outCells k t (.pointer none)) w')) (fun _ _ _ => 0)
      case atStart => exact ⟨rfl, ⟨by repeat (first | (with_reducible exact HF.out) | (refine FS.same ?_ rfl) | (with_reducible apply FS.alloc) | (with_reducible apply FS.drew) | (with_reducible apply FS.drewN))⟩⟩
      case round =>
        obtain ⟨rfl, HF⟩ := hrel
        go_upto_region 29 with fail
        refine wp_world (FS w wz b g (inCells k t) (outCells k t (.pointer none))) HF.out ?_
        intro wc hF
        clear HF i26 i27
        have HS := As.mk hF
        have KP : As (∀ w', FS w wz b g (inCells k t) (outCells k t (.pointer none)) w' → w'.cell? ⟨b, 28, none⟩ = some (.int .u8 0) ∧ w'.cell? ⟨b, 29, none⟩ = some (.int .u8 0) ∧ w'.cell? ⟨b, 30, none⟩ = some (.bool false) ∧ w'.cell? ⟨b, 31, none⟩ = some (.string ⟨#[]⟩) ∧ w'.cell? ⟨g, 34, none⟩ = some (.int .u8 0) ∧ w'.cell? ⟨g, 35, none⟩ = some (.int .u8 0) ∧ w'.cell? ⟨g, 36, none⟩ = some (.pointer none) ∧ w'.frozen? ⟨g, 34, none⟩ = false ∧ w'.frozen? ⟨g, 35, none⟩ = false ∧ w'.frozen? ⟨g, 36, none⟩ = false) := ⟨fun w' h => ⟨h.bi.cell 28, h.bi.cell 29, h.bi.cell 30, h.bi.cell 31, h.bo.cell 34, h.bo.cell 35, h.bo.cell 36, h.bo.frozen 34, h.bo.frozen 35, h.bo.frozen 36⟩⟩
        clear hF
        go_region_held3 (fun w' => w'.cell? ⟨b, 28, none⟩ = some (.int .u8 0) ∧ w'.cell? ⟨b, 29, none⟩ = some (.int .u8 0) ∧ w'.cell? ⟨b, 30, none⟩ = some (.bool false) ∧ w'.cell? ⟨b, 31, none⟩ = some (.string ⟨#[]⟩) ∧ w'.cell? ⟨g, 34, none⟩ = some (.int .u8 0) ∧ w'.cell? ⟨g, 35, none⟩ = some (.int .u8 0) ∧ w'.cell? ⟨g, 36, none⟩ = some (.pointer none) ∧ w'.frozen? ⟨g, 34, none⟩ = false ∧ w'.frozen? ⟨g, 35, none⟩ = false ∧ w'.frozen? ⟨g, 36, none⟩ = false) (exact KP.out _ (by repeat (first | (with_reducible exact HS.out) | (refine FS.same ?_ rfl) | (with_reducible apply FS.alloc) | (with_reducible apply FS.drew) | (with_reducible apply FS.drewN)))) (first
          | (go_simp
             refine (text_nil _ _).mono ?_
             rintro e54 w54 ⟨rfl, hc54⟩
             have HS54 : As (FS w wz b g (inCells k t) (outCells k t (.pointer none)) w54) := ⟨FS.next (by repeat (first | (with_reducible exact HS.out) | (refine FS.same ?_ rfl) | (with_reducible apply FS.alloc) | (with_reducible apply FS.drew) | (with_reducible apply FS.drewN))) hc54⟩
             clear hc54 HS
             have HS := HS54
             clear HS54))
        go_upto_region 30 with fail
        have HF := HS
        clear HS KP
        refine wp_world (FS w wz b g (inCells k t) (outCells k t (.pointer none))) ?hs ?_
        case hs => repeat (first | (with_reducible exact HF.out) | (refine FS.same ?_ rfl) | (with_reducible apply FS.alloc) | (with_reducible apply FS.drew) | (with_reducible apply FS.drewN))
        intro wc hF
        have HF := As.mk hF
        clear hF
        have i32 : wc.cell? ⟨b, 32, none⟩ = some (.bool false) := HF.out.bi.cell 32
        have i33 : wc.cell? ⟨b, 33, none⟩ = some (.bool false) := HF.out.bi.cell 33
        have i34 : wc.cell? ⟨b, 34, none⟩ = some (.string ⟨#[]⟩) := HF.out.bi.cell 34
        have i35 : wc.cell? ⟨b, 35, none⟩ = some (.string ⟨#[]⟩) := HF.out.bi.cell 35
        have o37 : wc.cell? ⟨g, 37, none⟩ = some (.bool false) := HF.out.bo.cell 37
        have z37 := HF.out.bo.frozen 37
        have o38 : wc.cell? ⟨g, 38, none⟩ = some (.bool false) := HF.out.bo.cell 38
        have z38 := HF.out.bo.frozen 38
        have o39 : wc.cell? ⟨g, 39, none⟩ = some (.string ⟨#[]⟩) := HF.out.bo.cell 39
        have z39 := HF.out.bo.frozen 39
        have o40 : wc.cell? ⟨g, 40, none⟩ = some (.string ⟨#[]⟩) := HF.out.bo.cell 40
        have z40 := HF.out.bo.frozen 40
        go_upto_region 31 with fail
        refine wp_world (FS w wz b g (inCells k t) (outCells k t (.pointer none))) ?hs ?_
        case hs => repeat (first | (with_reducible exact HF.out) | (refine FS.same ?_ rfl) | (with_reducible apply FS.alloc) | (with_reducible apply FS.drew) | (with_reducible apply FS.drewN))
        intro wc hF
        clear HF i32 i33 i34 i35 o37 z37 o38 z38 o39 z39 o40 z40
        have HF := As.mk hF
        clear hF
        have i36 : wc.cell? ⟨b, 36, none⟩ = some (.bool false) := HF.out.bi.cell 36
        have o41 : wc.cell? ⟨g, 41, none⟩ = some (.bool false) := HF.out.bo.cell 41
        have z41 := HF.out.bo.frozen 41
        go_upto_region 32 with fail
        refine wp_world (FS w wz b g (inCells k t) (outCells k t (.pointer none))) ?hs ?_
        case hs => repeat (first | (with_reducible exact HF.out) | (refine FS.same ?_ rfl) | (with_reducible apply FS.alloc) | (with_reducible apply FS.drew) | (with_reducible apply FS.drewN))
        intro wc hF
        clear HF i36 o41 z41
        have HF := As.mk hF
        clear hF
        have i37 : wc.cell? ⟨b, 37, none⟩ = some (.int .u8 0) := HF.out.bi.cell 37
        have o42 : wc.cell? ⟨g, 42, none⟩ = some (.bool false) := HF.out.bo.cell 42
        have z42 := HF.out.bo.frozen 42
        have o43 : wc.cell? ⟨g, 43, none⟩ = some (.bool false) := HF.out.bo.cell 43
        have z43 := HF.out.bo.frozen 43
        have o44 : wc.cell? ⟨g, 44, none⟩ = some (.bool false) := HF.out.bo.cell 44
        have z44 := HF.out.bo.frozen 44
        have o45 : wc.cell? ⟨g, 45, none⟩ = some (.bool false) := HF.out.bo.cell 45
        have z45 := HF.out.bo.frozen 45
        go_upto_region 33 with fail
        refine wp_world (FS w wz b g (inCells k t) (outCells k t (.pointer none))) ?hs ?_
        case hs => repeat (first | (with_reducible exact HF.out) | (refine FS.same ?_ rfl) | (with_reducible apply FS.alloc) | (with_reducible apply FS.drew) | (with_reducible apply FS.drewN))
        intro wc hF
        clear HF i37 o42 z42 o43 z43 o44 z44 o45 z45
        have HF := As.mk hF
        clear hF
        have i37 : wc.cell? ⟨b, 37, none⟩ = some (.int .u8 0) := HF.out.bi.cell 37
        have o46 : wc.cell? ⟨g, 46, none⟩ = some (.bool false) := HF.out.bo.cell 46
        have z46 := HF.out.bo.frozen 46
        have o47 : wc.cell? ⟨g, 47, none⟩ = some (.bool false) := HF.out.bo.cell 47
        have z47 := HF.out.bo.frozen 47
        have o48 : wc.cell? ⟨g, 48, none⟩ = some (.bool false) := HF.out.bo.cell 48
        have z48 := HF.out.bo.frozen 48
        go_upto_region 34 with fail
        refine wp_world (FS w wz b g (inCells k t) (outCells k t (.pointer none))) ?hs ?_
        case hs => repeat (first | (with_reducible exact HF.out) | (refine FS.same ?_ rfl) | (with_reducible apply FS.alloc) | (with_reducible apply FS.drew) | (with_reducible apply FS.drewN))
        intro wc hF
        clear HF i37 o46 z46 o47 z47 o48 z48
        have HF := As.mk hF
        clear hF
        have i38 : wc.cell? ⟨b, 38, none⟩ = some (.bool false) := HF.out.bi.cell 38
        have i40 : wc.cell? ⟨b, 40, none⟩ = some (.string ⟨#[]⟩) := HF.out.bi.cell 40
        have i41 : wc.cell? ⟨b, 41, none⟩ = some (.bool false) := HF.out.bi.cell 41
        have i42 : wc.cell? ⟨b, 42, none⟩ = some (.bool false) := HF.out.bi.cell 42
        have o50 : wc.cell? ⟨g, 50, none⟩ = some (.string ⟨#[]⟩) := HF.out.bo.cell 50
        have z50 := HF.out.bo.frozen 50
        have o51 : wc.cell? ⟨g, 51, none⟩ = some (.bool false) := HF.out.bo.cell 51
        have z51 := HF.out.bo.frozen 51
        have o52 : wc.cell? ⟨g, 52, none⟩ = some (.bool false) := HF.out.bo.cell 52
        have z52 := HF.out.bo.frozen 52
        go_upto_region 38 with fail
        refine wp_world (FS w wz b g (inCells k t) (outCells k t (.pointer none))) ?hs ?_
        case hs => repeat (first | (with_reducible exact HF.out) | (refine FS.same ?_ rfl) | (with_reducible apply FS.alloc) | (with_reducible apply FS.drew) | (with_reducible apply FS.drewN))
        intro wc hF
        clear HF i38 i40 i41 i42 o50 z50 o51 z51 o52 z52
        have HF := As.mk hF
        clear hF
        go_wp2_with fail
        go_ret
        exact ⟨g, rfl, by have := HF.out.lb; have := HF.out.lg; omega, HF.out.bo, HF.out.ch⟩
set_option maxRecDepth 100000 in
set_option maxHeartbeats 4000000 in
theorem fields_prim (k t p : Int) (w : World) (h0 : 0 ≤ t) (h1 : t ≤ 4294967296) :
    Calls Try.prog 15 #[.agg (inCellsP k t p).toArray] w fun e w' => ∃ g g2, e = .returned (.pointer (some ⟨g, 0, none⟩)) ∧ w.heap.size ≤ g ∧ w.heap.size ≤ g2 ∧ Blk w' g 95 (outCells k t (.pointer (some ⟨g2, 0, none⟩))) ∧ Blk w' g2 4 [.bool (p != 0)] ∧ Chg NoB w w' := by
  have hk : IntKind.i64.wrap t = t := by rw [IntKind.wrap_i64]; omega
  have q0 : (inCellsP k t p)[0]? = some (.int .i64 4) := rfl
  have q1 : (inCellsP k t p)[1]? = some (.int .u8 k) := rfl
  have q2 : (inCellsP k t p)[2]? = some (.int .u8 0) := rfl
  have q3 : (inCellsP k t p)[3]? = some (.int .i64 0) := rfl
  go_enter Try.func15, Try.ntmps15
  go_upto_region 2 with ((with_reducible refine gate (N := 20) rfl ?_); refine wpList_built rfl 95 _ rfl (outZero k).toArray ?hc ?_; (case hc => simpa [Act.eval, inCellsP] using outBuilt k))
  obtain ⟨b, hb⟩ : ∃ b, b = w.heap.size := ⟨_, rfl⟩
  obtain ⟨g, hg⟩ : ∃ g, g = w.heap.size + 1 := ⟨_, rfl⟩
  simp only [← hg]
  simp only [← hb]
  refine wp_world (fun w' => FS w w' b g (inCellsP k t p) (outZero k) w') ?hs ?_
  case hs => exact ⟨by omega, by omega, by rw [hb]; exact (Blk.new w _ _).alloc _, by rw [hg]; have := Blk.new (w.alloc (.cells (inCellsP k t p).toArray 41)) 95 (outZero k); rwa [show (w.alloc (.cells (inCellsP k t p).toArray 41)).heap.size = w.heap.size + 1 from by simp] at this, ((Chg.refl _ _).alloc _).alloc _, Chg.refl _ _⟩
  clear hb hg q0 q1 q2 q3
  intro wz hF
  refine wp_world (FS w wz b g (inCellsP k t p) (outZero k)) hF ?_
  clear hF
  intro wc hF
  have i7 : wc.cell? ⟨b, 7, none⟩ = some (.bool true) := hF.bi.cell 7
  have i8 : wc.cell? ⟨b, 8, none⟩ = some (.int .u64 t) := hF.bi.cell 8
  have o9 : wc.cell? ⟨g, 9, none⟩ = some (.int .u64 0) := hF.bo.cell 9
  have z9 := hF.bo.frozen 9
  have o10 : wc.cell? ⟨g, 10, none⟩ = some (.int .i64 0) := hF.bo.cell 10
  have z10 := hF.bo.frozen 10
  have o11 : wc.cell? ⟨g, 11, none⟩ = some (.pointer none) := hF.bo.cell 11
  have z11 := hF.bo.frozen 11
  have HF := As.mk hF
  clear hF
  go_upto_region 4 with fail
  refine (unix_any t _ h0 h1).mono ?_
  rintro e w1 ⟨rfl, hc1⟩
  have hF := HF.out.next hc1
  clear hc1 HF i7 i8 o9 o10 o11 z9 z10 z11
  have ho := ((hF.put 9 (.int .u64 0)).put 10 (.int .i64 (t + 62135596800))).put 11 (.pointer none)
  have HO : As (FS w wz b g (inCellsP k t p) (outCells k t (.pointer none)) (((w1.setCell ⟨g, 9, none⟩ (.int .u64 0)).setCell ⟨g, 10, none⟩ (.int .i64 (t + 62135596800))).setCell ⟨g, 11, none⟩ (.pointer none))) := ⟨ho⟩
  clear ho
  have o9 : w1.cell? ⟨g, 9, none⟩ = some (.int .u64 0) := hF.bo.cell 9
  have z9 := hF.bo.frozen 9
  have o10 : w1.cell? ⟨g, 10, none⟩ = some (.int .i64 0) := hF.bo.cell 10
  have z10 := hF.bo.frozen 10
  have o11 : w1.cell? ⟨g, 11, none⟩ = some (.pointer none) := hF.bo.cell 11
  have z11 := hF.bo.frozen 11
  clear hF
  simp only [tmCells]
  go_upto_region 4 with fail
  refine wp_world (FS w wz b g (inCellsP k t p) (outCells k t (.pointer none))) ?hs ?_
  case hs => exact HO.out
  intro wc hF
  clear HO o9 o10 o11 z9 z10 z11 hk
  have HS := As.mk hF
  have KP : As (∀ w', FS w wz b g (inCellsP k t p) (outCells k t (.pointer none)) w' → w'.cell? ⟨b, 10, none⟩ = some (.bool false) ∧ w'.cell? ⟨b, 11, none⟩ = some (.int .u64 0) ∧ w'.cell? ⟨b, 12, none⟩ = some (.bool false) ∧ w'.cell? ⟨b, 13, none⟩ = some (.int .u64 0) ∧ w'.cell? ⟨g, 21, none⟩ = some (.pointer none) ∧ w'.cell? ⟨g, 22, none⟩ = some (.pointer none) ∧ w'.frozen? ⟨g, 21, none⟩ = false ∧ w'.frozen? ⟨g, 22, none⟩ = false) := ⟨fun w' h => ⟨h.bi.cell 10, h.bi.cell 11, h.bi.cell 12, h.bi.cell 13, h.bo.cell 21, h.bo.cell 22, h.bo.frozen 21, h.bo.frozen 22⟩⟩
  clear hF
  go_region_held3 (fun w' => w'.cell? ⟨b, 10, none⟩ = some (.bool false) ∧ w'.cell? ⟨b, 11, none⟩ = some (.int .u64 0) ∧ w'.cell? ⟨b, 12, none⟩ = some (.bool false) ∧ w'.cell? ⟨b, 13, none⟩ = some (.int .u64 0) ∧ w'.cell? ⟨g, 21, none⟩ = some (.pointer none) ∧ w'.cell? ⟨g, 22, none⟩ = some (.pointer none) ∧ w'.frozen? ⟨g, 21, none⟩ = false ∧ w'.frozen? ⟨g, 22, none⟩ = false) (exact KP.out _ (by repeat (first | (with_reducible exact HS.out) | (refine FS.same ?_ rfl) | (with_reducible apply FS.alloc) | (with_reducible apply FS.drew) | (with_reducible apply FS.drewN)))) (first
    | (go_simp
       refine (pointer_nil 0 _).mono ?_
       rintro e44 w44 ⟨rfl, hc44⟩
       have HS44 : As (FS w wz b g (inCellsP k t p) (outCells k t (.pointer none)) w44) := ⟨FS.next (by repeat (first | (with_reducible exact HS.out) | (refine FS.same ?_ rfl) | (with_reducible apply FS.alloc) | (with_reducible apply FS.drew) | (with_reducible apply FS.drewN))) hc44⟩
       clear hc44 HS
       have HS := HS44
       clear HS44))
  go_upto_region 5 with fail
  have HF := HS
  clear HS KP
  refine wp_world (FS w wz b g (inCellsP k t p) (outCells k t (.pointer none))) ?hs ?_
  case hs => repeat (first | (with_reducible exact HF.out) | (refine FS.same ?_ rfl) | (with_reducible apply FS.alloc) | (with_reducible apply FS.drew) | (with_reducible apply FS.drewN))
  intro wc hF
  have HF := As.mk hF
  clear hF
  have i14 : wc.cell? ⟨b, 14, none⟩ = some (.slice none 0 0) := HF.out.bi.cell 14
  have i15 : wc.cell? ⟨b, 15, none⟩ = some (.slice none 0 0) := HF.out.bi.cell 15
  have i16 : wc.cell? ⟨b, 16, none⟩ = some (.slice none 0 0) := HF.out.bi.cell 16
  have o23 : wc.cell? ⟨g, 23, none⟩ = some (.slice none 0 0) := HF.out.bo.cell 23
  have z23 := HF.out.bo.frozen 23
  have o24 : wc.cell? ⟨g, 24, none⟩ = some (.slice none 0 0) := HF.out.bo.cell 24
  have z24 := HF.out.bo.frozen 24
  have o25 : wc.cell? ⟨g, 25, none⟩ = some (.slice none 0 0) := HF.out.bo.cell 25
  have z25 := HF.out.bo.frozen 25
  go_wp2_with fail
  go_loopw [4] (fun v4 w' => v4 = .int .i64 0 ∧ As (FS w wz b g (inCellsP k t p) (outCells k t (.pointer none)) w')) (fun _ _ => 0)
  case atStart => exact ⟨rfl, ⟨by repeat (first | (with_reducible exact HF.out) | (refine FS.same ?_ rfl) | (with_reducible apply FS.alloc) | (with_reducible apply FS.drew) | (with_reducible apply FS.drewN))⟩⟩
  case round =>
    obtain ⟨rfl, HF⟩ := hrel
    have i17 : wr.cell? ⟨b, 17, none⟩ = some (.slice none 0 0) := HF.out.bi.cell 17
    go_upto_region 10 with fail
    refine wp_world (FS w wz b g (inCellsP k t p) (outCells k t (.pointer none))) HF.out ?_
    intro wc hF
    clear HF i17
    have HF := As.mk hF
    clear hF
    have i18 : wc.cell? ⟨b, 18, none⟩ = some (.bool false) := HF.out.bi.cell 18
    have i20 : wc.cell? ⟨b, 20, none⟩ = some (.int .u8 0) := HF.out.bi.cell 20
    have i21 : wc.cell? ⟨b, 21, none⟩ = some (.slice none 0 0) := HF.out.bi.cell 21
    have o28 : wc.cell? ⟨g, 28, none⟩ = some (.int .u8 0) := HF.out.bo.cell 28
    have z28 := HF.out.bo.frozen 28
    go_upto_region 15 with fail
    refine wp_world (FS w wz b g (inCellsP k t p) (outCells k t (.pointer none))) ?hs ?_
    case hs => repeat (first | (with_reducible exact HF.out) | (refine FS.same ?_ rfl) | (with_reducible apply FS.alloc) | (with_reducible apply FS.drew) | (with_reducible apply FS.drewN))
    intro wc hF
    clear HF i18 i20 i21 o28 z28
    have HF := As.mk hF
    clear hF
    have i22 : wc.cell? ⟨b, 22, none⟩ = some (.bool false) := HF.out.bi.cell 22
    have i23 : wc.cell? ⟨b, 23, none⟩ = some (.string ⟨#[]⟩) := HF.out.bi.cell 23
    go_upto_region 16 with fail
    refine (text_nil _ _).mono ?_
    rintro e w2 ⟨rfl, hc2⟩
    have HF2 := As.mk (HF.out.next hc2)
    clear hc2 HF i22 i23
    have HF := HF2
    clear HF2
    have o30 : w2.cell? ⟨g, 30, none⟩ = some (.pointer none) := HF.out.bo.cell 30
    have z30 := HF.out.bo.frozen 30
    go_upto_region 16 with fail
    refine wp_world (FS w wz b g (inCellsP k t p) (outCells k t (.pointer none))) ?hs ?_
    case hs => repeat (first | (with_reducible exact HF.out) | (refine FS.same ?_ rfl) | (with_reducible apply FS.alloc) | (with_reducible apply FS.drew) | (with_reducible apply FS.drewN))
    intro wc hF
    clear HF  o30 z30
    have HF := As.mk hF
    clear hF
    have i24 : wc.cell? ⟨b, 24, none⟩ = some (.bool true) := HF.out.bi.cell 24
    have i25 : wc.cell? ⟨b, 25, none⟩ = some (.int .u64 p) := HF.out.bi.cell 25
    go_upto_region 18 with fail
    obtain ⟨g2, hg2⟩ : ∃ g2, g2 = wc.heap.size := ⟨_, rfl⟩
    simp only [← hg2]
    refine wp_world (fun w' => FS w w' b g (inCellsP k t p) (outCells k t (.pointer none)) w' ∧ Blk w' g2 4 [.bool (p != 0)]) ?hs ?_
    case hs => exact ⟨⟨HF.out.lb, HF.out.lg, HF.out.bi.alloc _, HF.out.bo.alloc _, HF.out.ch.alloc _, Chg.refl _ _⟩, by rw [hg2]; exact Blk.new wc _ [.bool (p != 0)]⟩
    intro wz2 hF
    have HB2 : As (Blk wz2 g2 4 [.bool (p != 0)] ∧ w.heap.size ≤ g2 ∧ g2 ≠ g) := ⟨hF.2, by rw [hg2]; exact HF.out.ch.size, by rw [hg2]; have := HF.out.bo.lt; omega⟩
    clear HF i24 i25 hg2
    refine wp_world (FS w wz2 b g (inCellsP k t p) (outCells k t (.pointer none))) hF.1 ?_
    clear hF
    intro wc hF
    have HF := As.mk hF
    clear hF
    have o31 : wc.cell? ⟨g, 31, none⟩ = some (.pointer none) := HF.out.bo.cell 31
    have z31 := HF.out.bo.frozen 31
    go_upto_region 19 with fail
    refine wp_world (FS w wz2 b g (inCellsP k t p) (outCells k t (.pointer (some ⟨g2, 0, none⟩)))) ?hs ?_
    case hs => exact HF.out.put 31 (.pointer (some ⟨g2, 0, none⟩))
    intro wc hF
    clear HF o31 z31
    have HF := As.mk hF
    clear hF
    have i26 : wc.cell? ⟨b, 26, none⟩ = some (.slice none 0 0) := HF.out.bi.cell 26
    go_wp2_with fail
    go_loopw [7, 130] (fun v7 v130 w' => v130 = .int .i64 0 ∧ As (FS w wz2 b g (inCellsP k t p) (outCells k t (.pointer (some ⟨g2, 0, none⟩))) w')) (fun _ _ _ => 0)
    case atStart => exact ⟨rfl, ⟨by repeat (first | (with_reducible exact HF.out) | (refine FS.same ?_ rfl) | (with_reducible apply FS.alloc) | (with_reducible apply FS.drew) | (with_reducible apply FS.drewN))⟩⟩
    case round =>
      obtain ⟨rfl, HF⟩ := hrel
      go_upto_region 24 with fail
      have i27 : wr.cell? ⟨b, 27, none⟩ = some (.slice none 0 0) := HF.out.bi.cell 27
      go_wp2_with fail
      go_loopw [9, 157] (fun v9 v157 w' => v157 = .int .i64 0 ∧ As (FS w wz2 b g (inCellsP k t p) (outCells k t (.pointer (some ⟨g2, 0, none⟩))) w')) (fun _ _ _ => 0)
      case atStart => exact ⟨rfl, ⟨by repeat (first | (with_reducible exact HF.out) | (refine FS.same ?_ rfl) | (with_reducible apply FS.alloc) | (with_reducible apply FS.drew) | (with_reducible apply FS.drewN))⟩⟩
      case round =>
        obtain ⟨rfl, HF⟩ := hrel
        go_upto_region 29 with fail
        refine wp_world (FS w wz2 b g (inCellsP k t p) (outCells k t (.pointer (some ⟨g2, 0, none⟩)))) HF.out ?_
        intro wc hF
        clear HF i26 i27
        have HS := As.mk hF
        have KP : As (∀ w', FS w wz2 b g (inCellsP k t p) (outCells k t (.pointer (some ⟨g2, 0, none⟩))) w' → w'.cell? ⟨b, 28, none⟩ = some (.int .u8 0) ∧ w'.cell? ⟨b, 29, none⟩ = some (.int .u8 0) ∧ w'.cell? ⟨b, 30, none⟩ = some (.bool false) ∧ w'.cell? ⟨b, 31, none⟩ = some (.string ⟨#[]⟩) ∧ w'.cell? ⟨g, 34, none⟩ = some (.int .u8 0) ∧ w'.cell? ⟨g, 35, none⟩ = some (.int .u8 0) ∧ w'.cell? ⟨g, 36, none⟩ = some (.pointer none) ∧ w'.frozen? ⟨g, 34, none⟩ = false ∧ w'.frozen? ⟨g, 35, none⟩ = false ∧ w'.frozen? ⟨g, 36, none⟩ = false) := ⟨fun w' h => ⟨h.bi.cell 28, h.bi.cell 29, h.bi.cell 30, h.bi.cell 31, h.bo.cell 34, h.bo.cell 35, h.bo.cell 36, h.bo.frozen 34, h.bo.frozen 35, h.bo.frozen 36⟩⟩
        clear hF
        go_region_held3 (fun w' => w'.cell? ⟨b, 28, none⟩ = some (.int .u8 0) ∧ w'.cell? ⟨b, 29, none⟩ = some (.int .u8 0) ∧ w'.cell? ⟨b, 30, none⟩ = some (.bool false) ∧ w'.cell? ⟨b, 31, none⟩ = some (.string ⟨#[]⟩) ∧ w'.cell? ⟨g, 34, none⟩ = some (.int .u8 0) ∧ w'.cell? ⟨g, 35, none⟩ = some (.int .u8 0) ∧ w'.cell? ⟨g, 36, none⟩ = some (.pointer none) ∧ w'.frozen? ⟨g, 34, none⟩ = false ∧ w'.frozen? ⟨g, 35, none⟩ = false ∧ w'.frozen? ⟨g, 36, none⟩ = false) (exact KP.out _ (by repeat (first | (with_reducible exact HS.out) | (refine FS.same ?_ rfl) | (with_reducible apply FS.alloc) | (with_reducible apply FS.drew) | (with_reducible apply FS.drewN)))) (first
          | (go_simp
             refine (text_nil _ _).mono ?_
             rintro e54 w54 ⟨rfl, hc54⟩
             have HS54 : As (FS w wz2 b g (inCellsP k t p) (outCells k t (.pointer (some ⟨g2, 0, none⟩))) w54) := ⟨FS.next (by repeat (first | (with_reducible exact HS.out) | (refine FS.same ?_ rfl) | (with_reducible apply FS.alloc) | (with_reducible apply FS.drew) | (with_reducible apply FS.drewN))) hc54⟩
             clear hc54 HS
             have HS := HS54
             clear HS54))
        go_upto_region 30 with fail
        have HF := HS
        clear HS KP
        refine wp_world (FS w wz2 b g (inCellsP k t p) (outCells k t (.pointer (some ⟨g2, 0, none⟩)))) ?hs ?_
        case hs => repeat (first | (with_reducible exact HF.out) | (refine FS.same ?_ rfl) | (with_reducible apply FS.alloc) | (with_reducible apply FS.drew) | (with_reducible apply FS.drewN))
        intro wc hF
        have HF := As.mk hF
        clear hF
        have i32 : wc.cell? ⟨b, 32, none⟩ = some (.bool false) := HF.out.bi.cell 32
        have i33 : wc.cell? ⟨b, 33, none⟩ = some (.bool false) := HF.out.bi.cell 33
        have i34 : wc.cell? ⟨b, 34, none⟩ = some (.string ⟨#[]⟩) := HF.out.bi.cell 34
        have i35 : wc.cell? ⟨b, 35, none⟩ = some (.string ⟨#[]⟩) := HF.out.bi.cell 35
        have o37 : wc.cell? ⟨g, 37, none⟩ = some (.bool false) := HF.out.bo.cell 37
        have z37 := HF.out.bo.frozen 37
        have o38 : wc.cell? ⟨g, 38, none⟩ = some (.bool false) := HF.out.bo.cell 38
        have z38 := HF.out.bo.frozen 38
        have o39 : wc.cell? ⟨g, 39, none⟩ = some (.string ⟨#[]⟩) := HF.out.bo.cell 39
        have z39 := HF.out.bo.frozen 39
        have o40 : wc.cell? ⟨g, 40, none⟩ = some (.string ⟨#[]⟩) := HF.out.bo.cell 40
        have z40 := HF.out.bo.frozen 40
        go_upto_region 31 with fail
        refine wp_world (FS w wz2 b g (inCellsP k t p) (outCells k t (.pointer (some ⟨g2, 0, none⟩)))) ?hs ?_
        case hs => repeat (first | (with_reducible exact HF.out) | (refine FS.same ?_ rfl) | (with_reducible apply FS.alloc) | (with_reducible apply FS.drew) | (with_reducible apply FS.drewN))
        intro wc hF
        clear HF i32 i33 i34 i35 o37 z37 o38 z38 o39 z39 o40 z40
        have HF := As.mk hF
        clear hF
        have i36 : wc.cell? ⟨b, 36, none⟩ = some (.bool false) := HF.out.bi.cell 36
        have o41 : wc.cell? ⟨g, 41, none⟩ = some (.bool false) := HF.out.bo.cell 41
        have z41 := HF.out.bo.frozen 41
        go_upto_region 32 with fail
        refine wp_world (FS w wz2 b g (inCellsP k t p) (outCells k t (.pointer (some ⟨g2, 0, none⟩)))) ?hs ?_
        case hs => repeat (first | (with_reducible exact HF.out) | (refine FS.same ?_ rfl) | (with_reducible apply FS.alloc) | (with_reducible apply FS.drew) | (with_reducible apply FS.drewN))
        intro wc hF
        clear HF i36 o41 z41
        have HF := As.mk hF
        clear hF
        have i37 : wc.cell? ⟨b, 37, none⟩ = some (.int .u8 0) := HF.out.bi.cell 37
        have o42 : wc.cell? ⟨g, 42, none⟩ = some (.bool false) := HF.out.bo.cell 42
        have z42 := HF.out.bo.frozen 42
        have o43 : wc.cell? ⟨g, 43, none⟩ = some (.bool false) := HF.out.bo.cell 43
        have z43 := HF.out.bo.frozen 43
        have o44 : wc.cell? ⟨g, 44, none⟩ = some (.bool false) := HF.out.bo.cell 44
        have z44 := HF.out.bo.frozen 44
        have o45 : wc.cell? ⟨g, 45, none⟩ = some (.bool false) := HF.out.bo.cell 45
        have z45 := HF.out.bo.frozen 45
        go_upto_region 33 with fail
        refine wp_world (FS w wz2 b g (inCellsP k t p) (outCells k t (.pointer (some ⟨g2, 0, none⟩)))) ?hs ?_
        case hs => repeat (first | (with_reducible exact HF.out) | (refine FS.same ?_ rfl) | (with_reducible apply FS.alloc) | (with_reducible apply FS.drew) | (with_reducible apply FS.drewN))
        intro wc hF
        clear HF i37 o42 z42 o43 z43 o44 z44 o45 z45
        have HF := As.mk hF
        clear hF
        have i37 : wc.cell? ⟨b, 37, none⟩ = some (.int .u8 0) := HF.out.bi.cell 37
        have o46 : wc.cell? ⟨g, 46, none⟩ = some (.bool false) := HF.out.bo.cell 46
        have z46 := HF.out.bo.frozen 46
        have o47 : wc.cell? ⟨g, 47, none⟩ = some (.bool false) := HF.out.bo.cell 47
        have z47 := HF.out.bo.frozen 47
        have o48 : wc.cell? ⟨g, 48, none⟩ = some (.bool false) := HF.out.bo.cell 48
        have z48 := HF.out.bo.frozen 48
        go_upto_region 34 with fail
        refine wp_world (FS w wz2 b g (inCellsP k t p) (outCells k t (.pointer (some ⟨g2, 0, none⟩)))) ?hs ?_
        case hs => repeat (first | (with_reducible exact HF.out) | (refine FS.same ?_ rfl) | (with_reducible apply FS.alloc) | (with_reducible apply FS.drew) | (with_reducible apply FS.drewN))
        intro wc hF
        clear HF i37 o46 z46 o47 z47 o48 z48
        have HF := As.mk hF
        clear hF
        have i38 : wc.cell? ⟨b, 38, none⟩ = some (.bool false) := HF.out.bi.cell 38
        have i40 : wc.cell? ⟨b, 40, none⟩ = some (.string ⟨#[]⟩) := HF.out.bi.cell 40
        have i41 : wc.cell? ⟨b, 41, none⟩ = some (.bool false) := HF.out.bi.cell 41
        have i42 : wc.cell? ⟨b, 42, none⟩ = some (.bool false) := HF.out.bi.cell 42
        have o50 : wc.cell? ⟨g, 50, none⟩ = some (.string ⟨#[]⟩) := HF.out.bo.cell 50
        have z50 := HF.out.bo.frozen 50
        have o51 : wc.cell? ⟨g, 51, none⟩ = some (.bool false) := HF.out.bo.cell 51
        have z51 := HF.out.bo.frozen 51
        have o52 : wc.cell? ⟨g, 52, none⟩ = some (.bool false) := HF.out.bo.cell 52
        have z52 := HF.out.bo.frozen 52
        go_upto_region 38 with fail
        refine wp_world (FS w wz2 b g (inCellsP k t p) (outCells k t (.pointer (some ⟨g2, 0, none⟩)))) ?hs ?_
        case hs => repeat (first | (with_reducible exact HF.out) | (refine FS.same ?_ rfl) | (with_reducible apply FS.alloc) | (with_reducible apply FS.drew) | (with_reducible apply FS.drewN))
        intro wc hF
        clear HF i38 i40 i41 i42 o50 z50 o51 z51 o52 z52
        have HF := As.mk hF
        clear hF
        go_wp2_with fail
        go_ret
        exact ⟨g, g2, rfl, by have := HF.out.lb; have := HF.out.lg; omega, HB2.out.2.1, HF.out.bo, HB2.out.1.chg HF.out.c2 HB2.out.2.2, HF.out.ch⟩
end Go.Proofs.Ytdcamebmbadmbaa
