/- Padding's parse and SerializePadding, impl.ReadPadding, impl.WritePadding. -/
import Derived.Test.YtalbaapbiopamaaDoorPadW
import Derived.Test.YtalbaapbiopamaaDoorLenS
import Derived.Deep.RegionHeld3
set_option linter.unusedVariables false
set_option linter.unusedSimpArgs false
namespace Go.Proofs.YtalbaapbiopamaaDoor
open Go.RowKit V
theorem nil_aheadP (n : Int) (w : World) : (nilAhead 212 40 (.int .i64 n) "pub-counterseal/pub/gocrypto/openpgp/packet.parse").run Tryd.prog w = .ok (some false) w := by kernel_rfl
theorem method_parse (n : Int) (w : World) : (method 212 40 (.int .i64 n) "pub-counterseal/pub/gocrypto/openpgp/packet.parse").run Tryd.prog w = .ok (37, .int .i64 n) w := by kernel_rfl
/-- The error of a read of so many bytes: none, or the end. -/
def padErr (n l : Nat) (a0 : Addr) : Value := if n ≤ l then .nilIface else .iface 88 (.pointer (some a0))
/-- What a reading of padding leaves. -/
def Parsed (base s n : Nat) (xs : List Int) (sp : Int) (a0 : Addr) (w : World) (e : Ending) (w' : World) : Prop :=
  (∃ er, e = .returned er ∧ er = padErr n xs.length a0) ∧ Src w' base s (xs.drop (min n xs.length)) sp ∧ Chg (fun b => base ≤ b) w w'
set_option maxRecDepth 100000 in
set_option maxHeartbeats 1000000 in
theorem parse_any (base s n : Nat) (xs : List Int) (sp : Int) (w : World) (a0 a1 : Addr) (hS : Sent w a0 a1) (hB : 0 < base ∧ 1 < base ∧ a0.block < base ∧ a1.block < base)
    (hs : Src w base s xs sp) (hn : n ≤ 1048576) (hx : xs.length ≤ 2097152) (hbs : base ≤ s) (hbw : base ≤ w.heap.size) :
    Calls Tryd.prog 37 #[.int .i64 n, .iface 34 (.pointer (some ⟨s, 0, none⟩))] w (Parsed base s n xs sp a0 w) := by
  have H := As.mk (copyN_any 106 (.agg #[]) 45 (.agg #[]) base s n xs sp (fun _ _ _ _ => True) w a0 a1 hS hB (fun g B _ _ _ => discTaker base g s B xs) (fun _ _ _ _ _ _ _ _ => trivial) hs hn hx hbs hbw)
  clear hS hB hs
  go_enter Tryd.func37, Tryd.ntmps37
  go_wp2_with fail
  refine H.out.mono ?_
  rintro e w1 ⟨⟨er, rfl, her⟩, _, h2, h3⟩
  have H1 := As.mk (And.intro her (And.intro h2 h3))
  clear her h2 h3 H
  go_wp2_with fail
  go_ret
  exact ⟨⟨er, rfl, H1.out.1⟩, H1.out.2⟩
set_option maxRecDepth 100000 in
set_option maxHeartbeats 1000000 in
theorem zzParse_any (base s n : Nat) (xs : List Int) (sp : Int) (w : World) (a0 a1 : Addr) (hS : Sent w a0 a1) (hB : 0 < base ∧ 1 < base ∧ a0.block < base ∧ a1.block < base)
    (hs : Src w base s xs sp) (hn : n ≤ 1048576) (hx : xs.length ≤ 2097152) (hbs : base ≤ s) (hbw : base ≤ w.heap.size) :
    Calls Tryd.prog 8 #[.iface 40 (.int .i64 n), .iface 34 (.pointer (some ⟨s, 0, none⟩))] w (Parsed base s n xs sp a0 w) := by
  have H := As.mk (parse_any base s n xs sp w a0 a1 hS hB hs hn hx hbs hbw)
  have na := nil_aheadP n
  have mp := method_parse n
  clear hS hB hs
  go_enter Tryd.func8, Tryd.ntmps8
  go_wp2_with fail
  refine H.out.mono ?_
  rintro e w1 ⟨⟨er, rfl, her⟩, h2, h3⟩
  have H1 := As.mk (And.intro her (And.intro h2 h3))
  clear her h2 h3 H
  go_wp2_with fail
  go_ret
  exact ⟨⟨er, rfl, H1.out.1⟩, H1.out.2⟩
/-- What is left of so many bytes, and how it ended. -/
def padEnd (n l : Nat) : Int := if n ≤ l then 0 else 1
set_option maxRecDepth 100000 in
set_option maxHeartbeats 1000000 in
theorem readPadding_any (n l c : Nat) (A : Option Addr) (xs : List Int) (w : World) (a0 a1 : Addr) (hS : Sent w a0 a1) (hl : l = xs.length) (hc : l ≤ c) (hx : Rb w A xs) (hn : n ≤ 1048576) (hl2 : l ≤ 1048576) :
    Calls Tryd.prog 4 #[.int .i64 n, .slice A l c] w fun e w' => e = .returned (.tuple #[.int .i64 (l - n : Nat), .int .i64 (padEnd n l)]) ∧ Chg NoB w w' := by
  have HS := As.mk hS
  have HX := As.mk hx
  have HL := As.mk hl
  clear hS hx hl
  go_enter Tryd.func4, Tryd.ntmps4
  go_wp2_with fail
  have HSR : As (Src (w.alloc (.cells #[.slice A l c, .int .i64 0] 36)) w.heap.size w.heap.size xs 0) := ⟨⟨A, c, by have := Blk.new w 36 [.slice A l c, .int .i64 0]; rw [HL.out] at this; rw [HL.out]; exact this, by rw [← HL.out]; exact hc, HX.out.alloc _, fun ad e hp => by
    obtain ⟨ad', e', hlt, _⟩ := HX.out.2 hp
    rw [e] at e'; injection e' with e'; subst e'; exact hlt⟩⟩
  refine (zzParse_any w.heap.size w.heap.size n xs 0 _ a0 a1 (HS.out.keep ((Chg.refl NoB w).alloc _)) HS.out.lts HSR.out hn (by rw [← HL.out]; omega) (Nat.le_refl _) (by simp)).mono ?_
  rintro e w1 ⟨⟨er, rfl, her⟩, hs1, hc1⟩
  have HC1 : As (Chg NoB w w1) := ⟨((Chg.refl NoB w).alloc _).trans hc1 (fun i hi e => by omega)⟩
  have HER := As.mk her
  obtain ⟨A1, c1, hb1, _, _, _⟩ := hs1
  have s0 := hb1.cell 0
  simp only [List.getElem?_cons_zero, List.length_drop] at s0
  have hmin : xs.length - min n xs.length = l - n := by rw [HL.out]; omega
  rw [hmin] at s0
  clear her hc1 hb1 hmin HSR
  have HEND : As (∀ w0, Chg NoB w w0 → Calls Tryd.prog 9 #[er] w0 fun e w' => e = .returned (.int .i64 (padEnd n l)) ∧ w' = w0) := ⟨fun w0 h0 => by
    rw [HER.out]
    unfold padErr padEnd
    rw [← HL.out]
    by_cases h : n ≤ l
    · rw [if_pos h, if_pos h]; exact end_nil w0
    · rw [if_neg h, if_neg h]; exact end_eof w0 a0 a1 (HS.out.keep h0)⟩
  clear HER
  obtain ⟨pe, hpe⟩ : ∃ pe, pe = padEnd n l := ⟨_, rfl⟩
  have HPE := As.mk hpe
  rw [← hpe] at HEND
  clear hpe
  go_wp2_with fail
  have HX1 : As (Chg NoB w1 w1) := ⟨Chg.refl _ _⟩
  have KP : As (∀ w', Chg NoB w1 w' → w'.cell? ⟨w.heap.size, 0, none⟩ = some (.slice A1 (l - n) c1)) := ⟨fun w' h => (h.cell (p := ⟨w.heap.size, 0, none⟩) (World.block_lt_of_cell? w1 _ s0) (fun e => e)).trans s0⟩
  go_region_held3 (fun w' => w'.cell? ⟨w.heap.size, 0, none⟩ = some (.slice A1 (l - n) c1)) (exact KP.out _ (by repeat (first | exact HX1.out | (with_reducible apply Chg.drew) | (with_reducible apply Chg.alloc)))) (first
    | (go_simp
       refine (HEND.out _ ?hc0).mono ?_
       case hc0 => exact HC1.out.trans (by repeat (first | exact HX1.out | (with_reducible apply Chg.drew) | (with_reducible apply Chg.alloc))) (fun _ _ e => e)
       rintro e2 w2 ⟨rfl, hw2⟩
       have HX2 : As (Chg NoB w1 w2) := ⟨by rw [hw2]; repeat (first | exact HX1.out | (with_reducible apply Chg.drew) | (with_reducible apply Chg.alloc))⟩
       clear hw2 HX1
       have HX1 := HX2
       clear HX2))
  go_wp2_with fail
  go_ret2
  exact ⟨by rw [← HPE.out]; rfl, HC1.out.trans HX1.out (fun _ _ e => e)⟩
/-- What padding is written as. -/
def padL (n : Nat) (xs : List Int) : List Int := [192 + 21] ++ lenL n ++ xs.take n
set_option maxRecDepth 100000 in
set_option maxHeartbeats 1000000 in
theorem serializePadding_any (base n : Nat) (xs : List Int) (w : World) (a0 a1 : Addr) (hS : Sent w a0 a1) (hB : 0 < base ∧ 1 < base ∧ a0.block < base ∧ a1.block < base)
    (hg : Blk w base 44 [.slice none 0 0]) (hs : Src w base (base + 1) xs 0) (hn : n ≤ 65535) (hx : xs.length ≤ 1048576) :
    Calls Tryd.prog 10 #[.int .i64 n, .iface 42 (.pointer (some ⟨base, 0, none⟩)), .iface 34 (.pointer (some ⟨base + 1, 0, none⟩))] w fun e w' => (∃ er, e = .returned er ∧ er = padErr n xs.length a0) ∧ (∃ v, Blk w' base 44 [v] ∧ Own w' base 5 .u8 v ([192 + 21] ++ lenL n ++ xs.take (min n xs.length))) ∧ Chg (fun b => base ≤ b) w w' := by
  have hslt : base + 1 < w.heap.size := by obtain ⟨_, _, hb, _⟩ := hs; exact hb.lt
  have HS := As.mk hS
  have HGB := As.mk hB
  have HSR := As.mk hs
  have HSK : As (Sink w (base + 2) base []) := ⟨⟨_, hg, .inl (own_nil _ _ _ _)⟩⟩
  have hLL := lenL_length n
  have HLL := As.mk hLL
  clear hS hB hs hg hLL
  go_enter Tryd.func10, Tryd.ntmps10
  go_wp2_with fail
  refine (serializeHeader_any (base + 2) base n 21 [] _ HSK.out (by omega) (by omega) (by simp) (by omega) (by omega) (by omega)).mono ?_
  rintro e w1 ⟨rfl, ⟨v1, hb1, ho1⟩, hc1⟩
  rw [List.nil_append] at ho1
  have hown1 := ow_own ho1 (by simp)
  have HC1 : As (Chg (fun b => base ≤ b) w w1) := ⟨hc1.mono (fun i hi e => by rcases e with e | e <;> omega)⟩
  have hr1 := own_block_lt hown1
  have hz1 := hc1.size
  have HCP := As.mk (copyN_any 42 (.pointer (some ⟨base, 0, none⟩)) 39 (.pointer (some ⟨base, 0, none⟩)) base (base + 1) n xs 0 (SinkD (base + 2) base (base + 1) ([192 + 21] ++ lenL n) xs) w1 a0 a1 (HS.out.chg HGB.out HC1.out (fun i hi e => by omega)) HGB.out
    (fun g B h1 h2 h3 => sinkTaker base (base + 2) base (base + 1) g B ([192 + 21] ++ lenL n) xs (by omega) (by omega) (by omega) (by omega) (by omega) (by omega) (by have := HLL.out; simp only [List.length_append, List.length_singleton]; omega))
    (fun g B w' h1 h2 h3 h4 h5 => ⟨⟨v1, hb1.chg h5 (fun e => e), by rw [List.take_zero, List.append_nil]; exact own_keep hown1 h5, fun r hr => by have := hr1 r hr; exact ⟨fun e => by rcases e with e | e | e <;> omega, by omega⟩⟩, h3, by have := h5.size; omega⟩)
    (HSR.out.chg hc1 (fun e => by rcases e with e | e <;> omega) (fun b hb e => by rcases e with e | e <;> omega)) (by omega) (by omega) (by omega) (by omega))
  clear hb1 ho1 hc1 hown1 hr1 HSK HSR
  go_wp2_with fail
  refine HCP.out.mono ?_
  rintro e w2 ⟨⟨er, rfl, her⟩, ⟨g, B, ⟨v2, hb2, ho2, _⟩, _, _⟩, _, hc2⟩
  have HX : As (er = padErr n xs.length a0 ∧ (∃ v, Blk w2 base 44 [v] ∧ Own w2 base 5 .u8 v ([192 + 21] ++ lenL n ++ xs.take (min n xs.length))) ∧ Chg (fun b => base ≤ b) w w2) := ⟨her, ⟨v2, hb2, own_lower ho2 (by omega)⟩, HC1.out.trans hc2 (fun _ _ e => e)⟩
  clear her hb2 ho2 hc2 HCP HLL
  go_wp2_with fail
  go_ret
  exact ⟨⟨er, rfl, HX.out.1⟩, HX.out.2⟩
set_option maxRecDepth 100000 in
set_option maxHeartbeats 1000000 in
theorem writePadding_any (n l c : Nat) (A : Option Addr) (xs : List Int) (w : World) (a0 a1 : Addr) (hS : Sent w a0 a1) (hl : l = xs.length) (hc : l ≤ c) (hx : Rb w A xs) (hn : n ≤ 65535) (hl2 : l ≤ 1048576) :
    Calls Tryd.prog 5 #[.int .i64 n, .slice A l c] w fun e w' => ∃ v, e = .returned (.tuple #[v, .int .i64 (padEnd n l)]) ∧ Own w' w.heap.size 5 .u8 v ([192 + 21] ++ lenL n ++ xs.take (min n xs.length)) ∧ Chg NoB w w' := by
  have HS := As.mk hS
  have HX := As.mk hx
  have HL := As.mk hl
  clear hS hx hl
  obtain ⟨base, hbase⟩ : ∃ b, b = w.heap.size := ⟨_, rfl⟩
  go_enter Tryd.func5, Tryd.ntmps5
  go_wp2_with fail
  have HSR : As (Src ((w.alloc (.cells #[.slice none 0 0] 44)).alloc (.cells #[.slice A l c, .int .i64 0] 36)) w.heap.size (w.heap.size + 1) xs 0) := ⟨⟨A, c, by have h := Blk.new (w.alloc (.cells #[.slice none 0 0] 44)) 36 [.slice A l c, .int .i64 0]; rw [show (w.alloc (.cells #[.slice none 0 0] 44)).heap.size = w.heap.size + 1 from by simp] at h; rw [HL.out] at h; rw [HL.out]; exact h, by rw [← HL.out]; exact hc, (HX.out.alloc _).alloc _, fun ad e hp => by
    obtain ⟨ad', e', hlt, _⟩ := HX.out.2 hp
    rw [e] at e'; injection e' with e'; subst e'; exact hlt⟩⟩
  refine (serializePadding_any w.heap.size n xs _ a0 a1 (HS.out.keep (((Chg.refl NoB w).alloc _).alloc _)) HS.out.lts ((Blk.new w _ [.slice none 0 0]).alloc _) HSR.out hn (by rw [← HL.out]; exact hl2)).mono ?_
  rintro e w1 ⟨⟨er, rfl, her⟩, ⟨v, hb, ho⟩, hc1⟩
  have HC1 : As (Chg NoB w w1) := ⟨(((Chg.refl NoB w).alloc _).alloc _).trans hc1 (fun i hi e => by omega)⟩
  have HER := As.mk her
  have HO := As.mk ho
  have s0 := hb.cell 0
  simp only [List.getElem?_cons_zero] at s0
  clear her hc1 hb ho HSR hbase
  have HEND : As (∀ w0, Chg NoB w w0 → Calls Tryd.prog 9 #[er] w0 fun e w' => e = .returned (.int .i64 (padEnd n l)) ∧ w' = w0) := ⟨fun w0 h0 => by
    rw [HER.out]
    unfold padErr padEnd
    rw [← HL.out]
    by_cases h : n ≤ l
    · rw [if_pos h, if_pos h]; exact end_nil w0
    · rw [if_neg h, if_neg h]; exact end_eof w0 a0 a1 (HS.out.keep h0)⟩
  clear HER
  obtain ⟨pe, hpe⟩ : ∃ pe, pe = padEnd n l := ⟨_, rfl⟩
  have HPE := As.mk hpe
  rw [← hpe] at HEND
  clear hpe
  go_wp2_with fail
  have HX1 : As (Chg NoB w1 w1) := ⟨Chg.refl _ _⟩
  have KP : As (∀ w', Chg NoB w1 w' → w'.cell? ⟨w.heap.size, 0, none⟩ = some (v)) := ⟨fun w' h => (h.cell (p := ⟨w.heap.size, 0, none⟩) (World.block_lt_of_cell? w1 _ s0) (fun e => e)).trans s0⟩
  go_region_held3 (fun w' => w'.cell? ⟨w.heap.size, 0, none⟩ = some (v)) (exact KP.out _ (by repeat (first | exact HX1.out | (with_reducible apply Chg.drew) | (with_reducible apply Chg.alloc)))) (first
    | (go_simp
       refine (HEND.out _ ?hc0).mono ?_
       case hc0 => exact HC1.out.trans (by repeat (first | exact HX1.out | (with_reducible apply Chg.drew) | (with_reducible apply Chg.alloc))) (fun _ _ e => e)
       rintro e2 w2 ⟨rfl, hw2⟩
       have HX2 : As (Chg NoB w1 w2) := ⟨by rw [hw2]; repeat (first | exact HX1.out | (with_reducible apply Chg.drew) | (with_reducible apply Chg.alloc))⟩
       clear hw2 HX1
       have HX1 := HX2
       clear HX2))
  go_wp2_with fail
  go_ret2
  exact ⟨v, by rw [← HPE.out]; rfl, own_keep HO.out HX1.out, HC1.out.trans HX1.out (fun _ _ e => e)⟩
end Go.Proofs.YtalbaapbiopamaaDoor
