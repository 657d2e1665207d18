/- The walks of FnForAppend: SliceForAppend gives the text with so many bytes behind it, and those bytes alone. -/
import Derived.Test.YtmakkjkbonnjgaaBrief
import Derived.Test.YtmakkjkbonnjgaaPure
set_option linter.unusedVariables false
set_option linter.unusedSimpArgs false
namespace Go.Proofs.Ytmakkjkbonnjgaa
open Go.RowKit V

/-- head and tail: bytes hs that begin with xs, and those of them behind xs. -/
def HeadTail (w : World) (xs : List Int) (m : Nat) (e : Ending) (w' : World) : Prop :=
  ∃ Ah ch At ct, ∃ hs : List Int, e = .returned (.tuple #[.slice Ah (xs.length + m) ch, .slice At m ct]) ∧ hs.length = xs.length + m ∧ hs.take xs.length = xs ∧ Rb w' Ah hs ∧ Rb w' At (hs.drop xs.length) ∧ Chg NoB w w'

set_option maxRecDepth 100000 in
set_option maxHeartbeats 1000000 in
theorem sliceForAppend_any (g m n cap : Nat) (full xs : List Int) (w : World) (hn : n = xs.length) (hcp : cap = full.length) (hg : Blk w g 5 (nums .u8 full)) (hx : full.take xs.length = xs) (hle : xs.length ≤ full.length) (hf : full.length ≤ 140737488355328) (hm : m ≤ 65536) :
    Calls Try.prog 38 #[.slice (some ⟨g, 0, none⟩) n cap, .int .i64 m] w (HeadTail w xs m) := by
  subst hn hcp
  have hgl := hg.lt
  have rfull : Rb w (some ⟨g, 0, none⟩) full := ⟨by omega, fun hp => ⟨_, rfl, hgl, fun j hj => by
    rw [add_lit0, hg.cell j, nums_get hj]⟩⟩
  have RF := As.mk rfull
  have HX := As.mk hx
  clear rfull hx
  by_cases hc : xs.length + m ≤ full.length
  · have hcut := cut_to (P := Try.prog) 22 5 Try.underlying22 size8 (some ⟨g, 0, none⟩) xs.length full.length ((xs.length : Int) + (m : Int)) .i64 (xs.length + m) (by omega) hc
    obtain ⟨A2, hcut2, _, hA2⟩ := cut_from (P := Try.prog) 22 5 Try.underlying22 size8 (some ⟨g, 0, none⟩) (xs.length + m) full.length (xs.length : Int) .i64 m (full.length - xs.length) (by omega) (by omega) (by omega) hc
    have HA2 := Lib.hid hA2
    clear hA2
    go_enter Try.func38, Try.ntmps38
    go_wp2
    go_ret2
    have hl2 : (full.take (xs.length + m)).length = xs.length + m := by rw [List.length_take]; omega
    refine ⟨_, _, _, _, full.take (xs.length + m), rfl, hl2, ?_, RF.out.take_ _, ?_, Chg.refl _ _⟩
    · rw [List.take_take, Nat.min_eq_left (by omega)]; exact HX.out
    · have := HA2.out w .u8 _ hl2 (RF.out.take_ _)
      simpa using this
  · have hc1 : full.length < xs.length + m := by omega
    have hc2 : (full.length : Int) < (xs.length : Int) + (m : Int) := by omega
    have rx : As (Rb w (some ⟨g, 0, none⟩) xs) := ⟨by have := RF.out.take_ xs.length; rw [HX.out] at this; exact this⟩
    go_enter Try.func38, Try.ntmps38
    go_wp2_with (first
      | ((with_reducible refine gate (N := 19) rfl ?_); refine wpList_make_k rfl _ 22 rfl 5 .u8 1 Try.underlying22 info8 (by decide) (xs.length + m) _ rfl (by omega) (by omega) ?_; intro w1 g1 HG1 ho1 hc1 hz1; have HC1 := As.mk hc1; have HO1 := As.mk ho1; clear ho1 hc1 hz1; obtain ⟨A2, hcut2, _, hA2⟩ := cut_from (P := Try.prog) 22 5 Try.underlying22 size8 (some ⟨g1, 0, none⟩) (xs.length + m) (xs.length + m) (xs.length : Int) .i64 m m (by omega) (by omega) (by omega) (by omega); have HA2 := Lib.hid hA2; clear hA2)
      | ((with_reducible refine gate (N := 22) rfl ?_); refine wpList_copy_rk rfl _ _ 22 22 rfl w.heap.size 5 .u8 Try.underlying22 size8 g1 (xs.length + m) (List.replicate (xs.length + m) 0) (own_fix HO1.out) (some ⟨g1, 0, none⟩) 0 (xs.length + m) (xs.length + m) (by simp) rfl (fun _ => rfl) (some ⟨g, 0, none⟩) xs full.length rfl (rx.out.keep HC1.out) ?_; intro w2 ho2 hg2; have HO2 := As.mk ho2; have HG2 := As.mk hg2; clear ho2 hg2))
    go_ret2
    have hgb := own_blocks HO1.out
    have hsp : splice (List.replicate (xs.length + m) (0 : Int)) 0 (xs.take (xs.length + m)) = xs ++ List.replicate m 0 := by
      rw [List.take_of_length_le (by omega)]
      simp [splice]
    have ho := HO2.out
    rw [hsp] at ho
    have hr := own_reads ho
    refine ⟨_, _, _, _, xs ++ List.replicate m 0, rfl, by simp, by simp, hr, ?_, HC1.out.grown HG2.out (fun k hk e => by have e2 : g1 = k := Option.some.inj e; omega)⟩
    exact HA2.out w2 .u8 _ (by simp) hr

/-- What ForAppend hands back. -/
def HeadTailOk (w : World) (xs : List Int) (m : Nat) (e : Ending) (w' : World) : Prop :=
  ∃ vh vt, ∃ hs : List Int, e = .returned (.tuple #[vh, vt, .bool true]) ∧ hs.length = xs.length + m ∧ hs.take xs.length = xs ∧ Own w' w.heap.size 5 .u8 vh hs ∧ Own w' w.heap.size 5 .u8 vt (hs.drop xs.length) ∧ Chg NoB w w'
set_option maxRecDepth 100000 in
set_option maxHeartbeats 1000000 in
theorem forAppend_any (A : Option Addr) (n c s m : Nat) (xs : List Int) (w : World) (hn : n = xs.length) (hx : Rb w A xs) (hl : xs.length ≤ 4096) (hs : s ≤ 65536) (hm : m ≤ 65536) :
    Calls Try.prog 18 #[.slice A n c, .int .i64 s, .int .i64 m] w (HeadTailOk w xs m) := by
  subst hn
  have HXX := As.mk hx
  clear hx
  have hmk : ∀ W : World, (Instr.makeSlice 22 (.int .i64 0) (.int .i64 ((xs.length : Int) + (s : Int)))).run Try.prog W = .ok (.slice (some ⟨W.heap.size, 0, none⟩) 0 (xs.length + s)) (W.alloc (.cells (nums .u8 (List.replicate (xs.length + s) 0)).toArray 5)) := fun W => by
    obtain ⟨i0, hi, hz0, hz1, hz2⟩ := info_parts info8
    have hr := run_make (P := Try.prog) W 22 5 i0 (.int .u8 0) Try.underlying22 hi hz0 .i64 .i64 0 ((xs.length : Int) + (s : Int)) (by omega) (by omega) (by rw [hz2]; omega) (by omega)
    rw [hr, hz1, show ((xs.length : Int) + (s : Int)).toNat = xs.length + s from by omega, Nat.mul_one, Int.toNat_zero]
    congr 3
    apply Array.ext'
    rw [show (Value.int .u8 0).cells = #[Value.int .u8 0] from rfl, toList_madeCells_one]
    simp [nums]
  go_enter Try.func18, Try.ntmps18
  go_wp2_with (at_builtin; refine wpList_append_room rfl _ _ 22 rfl 5 .u8 1 Try.underlying22 info8 w.heap.size 0 (xs.length + s) (List.replicate (xs.length + s) 0) rfl (Blk.new w _ _) (by simp) xs A xs.length c rfl rfl (HXX.out.alloc _) (by omega) ?_; intro w1 hb1 hc1; have HB1 := As.mk hb1; have HC1 := As.mk hc1; clear hb1 hc1)
  have hsp : splice (List.replicate (xs.length + s) (0 : Int)) 0 xs = xs ++ List.replicate s 0 := by simp [splice]
  have hb := HB1.out
  rw [hsp] at hb
  refine (sliceForAppend_any w.heap.size m xs.length (xs.length + s) (xs ++ List.replicate s 0) xs w1 rfl (by simp) hb (by simp) (by simp) (by simp; omega) hm).mono ?_
  rintro e w2 ⟨Ah, ch, At, ct, hs', rfl, hlen, htk, hrh, hrt, hc2⟩
  have k12 : Chg NoB w w2 := (((Chg.refl NoB w).alloc _).trans HC1.out (fun i hi e => by omega)).trans hc2 (fun _ _ e => e)
  have HL := As.mk hlen
  have HT := As.mk htk
  clear hlen htk hb hsp
  go_wp2_with fail
  refine (own_any Ah _ ch hs' _ HL.out.symm hrh (by have := HL.out; omega)).mono ?_
  rintro e w3 ⟨v3, rfl, ho3, hc3⟩
  go_wp2_with fail
  refine (own_any At _ ct (hs'.drop xs.length) _ (by rw [List.length_drop, HL.out]; omega) (hrt.keep hc3) (by rw [List.length_drop]; have := HL.out; omega)).mono ?_
  rintro e w4 ⟨v4, rfl, ho4, hc4⟩
  go_wp2_with fail
  go_ret3
  have k13 : Chg NoB w w3 := k12.trans hc3 (fun _ _ e => e)
  exact ⟨v3, v4, hs', rfl, HL.out, HT.out, own_lower (own_keep ho3 hc4) k12.size, own_lower ho4 k13.size, k13.trans hc4 (fun _ _ e => e)⟩

end Go.Proofs.Ytmakkjkbonnjgaa
