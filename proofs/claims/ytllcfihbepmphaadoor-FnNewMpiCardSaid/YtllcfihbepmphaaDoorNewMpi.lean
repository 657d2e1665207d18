/- The contracts of encoding.NewMPI and impl.NewMpi. -/
import Derived.Test.YtllcfihbepmphaaDoorLen8
import Derived.Test.YtllcfihbepmphaaDoorBits
import Derived.Test.YtllcfihbepmphaaDoorReadMpi
set_option linter.unusedVariables false
set_option linter.unusedSimpArgs false
namespace Go.Proofs.YtllcfihbepmphaaDoor
open Go.RowKit V
/-- How many bits the number of some octets has, that begin with no zero. -/
def bitsN (z : List Int) : Nat := if z.length = 0 then 0 else 8 * (z.length - 1) + len8 (rd z 0).toNat
theorem len8_fit : ∀ t : Nat, t < 256 → ∀ j : Nat, j < 8 → 128 ≤ t * 2 ^ j → t * 2 ^ j < 256 → len8 t = 8 - j := by decide +kernel
theorem len8_range : ∀ t : Nat, t < 256 → 1 ≤ t → 1 ≤ len8 t ∧ len8 t ≤ 8 := by decide +kernel
theorem bitsN_of {z : List Int} {m : Int} (hb : Byt z) (h : BitsIs z m) : m = (bitsN z : Int) := by
  unfold bitsN
  rcases h with ⟨rfl, rfl⟩ | ⟨hz, j, rfl, h1, h2⟩
  · rfl
  · have hl : z.length ≠ 0 := fun e => hz (List.eq_nil_of_length_eq_zero e)
    rw [if_neg hl]
    have hr := hb.rd 0
    obtain ⟨t, ht⟩ := Int.eq_ofNat_of_zero_le hr.1
    rw [ht] at h1 h2 hr ⊢
    rw [Int.toNat_natCast]
    have e : (t : Int) * 2 ^ j = ((t * 2 ^ j : Nat) : Int) := by simp
    rw [e] at h1 h2
    have ht1 : 1 ≤ t := by
      rcases Nat.eq_zero_or_pos t with h | h
      · subst h; simp at h1
      · exact h
    have hj : j < 8 := by
      rcases Nat.lt_or_ge j 8 with h | h
      · exact h
      · exfalso
        have hp : 2 ^ 8 ≤ 2 ^ j := Nat.pow_le_pow_right (by omega) h
        have : 2 ^ j ≤ t * 2 ^ j := Nat.le_mul_of_pos_left _ ht1
        omega
    have := len8_fit t (by omega) j hj (by omega) (by omega)
    rw [this]
    omega
theorem bitsN_bytes {z : List Int} (hb : Byt z) (hz : z.length = 0 ∨ rd z 0 ≠ 0) : nBytes (bitsN z) = z.length ∧ bitsN z ≤ 8 * z.length := by
  unfold bitsN nBytes
  by_cases hl : z.length = 0
  · rw [if_pos hl]; omega
  · rw [if_neg hl]
    have hr := hb.rd 0
    have hne : rd z 0 ≠ 0 := by rcases hz with h | h; exact absurd h hl; exact h
    obtain ⟨t, ht⟩ := Int.eq_ofNat_of_zero_le hr.1
    rw [ht] at hne hr ⊢
    rw [Int.toNat_natCast]
    have := len8_range t (by omega) (by omega)
    omega
set_option maxRecDepth 100000 in
set_option maxHeartbeats 2000000 in
theorem newMPI_any (A : Option Addr) (n c : Nat) (xs : List Int) (w : World) (hn : n = xs.length) (hnc : n ≤ c) (hx : Rb w A xs) (hb : Byt xs) (hl : n ≤ 8191) :
    Calls Tryd.prog 49 #[.slice A n c] w fun e w' => e = .returned (.pointer (some ⟨w.heap.size, 0, none⟩)) ∧ (∃ (A' : Option Addr) (c' : Nat), Blk w' w.heap.size 120 [.slice A' (sig xs).length c', .int .u16 (bitsN (sig xs))] ∧ Rb w' A' (sig xs)) ∧ Chg NoB w w' := by
  have HX := As.mk hx
  have HN := As.mk hn
  have HB := As.mk (sig_byt hb)
  clear hx hn hb
  go_enter Tryd.func49, Tryd.ntmps49
  go_wp2_with fail
  go_loopw [0] (fun v w' => ∃ (A' : Option Addr) (n' c' : Nat), v = .slice A' n' c' ∧ n' ≤ n ∧ n' ≤ c' ∧ As (∃ r : List Int, n' = r.length ∧ Rb w A' r ∧ sig r = sig xs) ∧ w' = w) (fun v _ => match v with | .slice _ n' _ => n' | _ => 0)
  case atStart => exact ⟨A, n, c, rfl, Nat.le_refl _, hnc, ⟨xs, HN.out, HX.out, rfl⟩, rfl⟩
  case round =>
    obtain ⟨A', n', c', rfl, hnn, hnc', HR, hw⟩ := hrel
    subst hw
    by_cases hz : n' = 0
    · subst hz
      have HE : As (sig xs = []) := ⟨by
        obtain ⟨r, h1, _, h3⟩ := HR.out
        rw [← h3, List.eq_nil_of_length_eq_zero h1.symm]; rfl⟩
      clear HR
      go_wp2_with fail
      go_ret
      refine ⟨rfl, ⟨A', c', ?_, ?_⟩, (Chg.refl NoB wr).alloc _⟩
      · rw [HE.out]; exact Blk.new wr _ [.slice A' 0 c', .int .u16 0]
      · rw [HE.out]; exact Rk.none_
    · obtain ⟨r, hr1, hr2, hr3⟩ := HR.out
      obtain ⟨a1, hA1, hc1⟩ := hr2.at_ 0 (by omega) (by omega)
      simp only [Int.toNat_zero, Addr.add, if_true] at hc1
      obtain ⟨A3, hcut3, _, hA3⟩ := cut_from (P := Tryd.prog) 22 5 Tryd.underlying22 size8 A' n' c' 1 .i64 (n' - 1) (c' - 1) (by omega) (by omega) (by omega) hnc'
      have HA3 := As.mk (hA3 _ .u8 r hr1.symm hr2)
      have hxr : r = rd r 0 :: r.drop 1 := by
        cases r with
        | nil => simp at hr1; omega
        | cons y r => simp [rd]
      have hlen1 : n' - 1 = (r.drop 1).length := by rw [List.length_drop]; omega
      have HS1 : As (sig xs = if rd r 0 = 0 then sig (r.drop 1) else r) := ⟨by rw [← hr3]; exact sig_split hxr⟩
      have HR2 := As.mk hr2
      have HR1 := As.mk hr1
      have HL1 := As.mk hlen1
      have hnzb : ((n' : Int) != 0) = true := by simp; omega
      have hnz2 : ((n' : Int) == 0) = false := by simp; omega
      by_cases hx1 : rd r 0 = 0
      · have HR3 : As (∃ r' : List Int, n' - 1 = r'.length ∧ Rb wr A3 r' ∧ sig r' = sig xs) := ⟨_, HL1.out, HA3.out, by rw [HS1.out, if_pos hx1]⟩
        rw [hx1] at hc1
        subst hA1
        clear HR hr1 hr2 hr3 hA3 hxr hlen1 hx1 HS1
        go_wp2_with fail
        go_roundw
        case rel => exact ⟨A3, n' - 1, c' - 1, rfl, by omega, by omega, HR3, trivial⟩
        case measure => simp; omega
      · have HE : As (sig xs = r) := ⟨by rw [HS1.out, if_neg hx1]⟩
        have hby := HB.out
        rw [HE.out] at hby
        have hrd := hby.rd 0
        obtain ⟨t, ht⟩ := Int.eq_ofNat_of_zero_le hrd.1
        rw [ht] at hc1 hrd hx1
        have hxb : ((t : Int) == 0) = false := by simpa using hx1
        have ht2 : t < 256 := by omega
        have hl8 := len8_range t ht2 (by omega)
        have hl8a := hl8.2
        obtain ⟨bn, hbn⟩ : ∃ bn, bn = bitsN r := ⟨_, rfl⟩
        have hbv : bn = 8 * (n' - 1) + len8 t := by rw [hbn]; unfold bitsN; rw [if_neg (by omega), ht, Int.toNat_natCast, ← hr1]
        have HBN := As.mk hbn
        have HL8 := As.mk (fun w => len8_any t w ht2)
        obtain ⟨l8, hl8e⟩ : ∃ l8, l8 = len8 t := ⟨_, rfl⟩
        rw [← hl8e] at HL8 hl8a hbv
        have hw1 : IntKind.u16.wrap (IntKind.u16.wrap (8 * IntKind.u16.wrap ((n' : Int) - 1)) + (l8 : Int)) = (bn : Int) := by simp [IntKind.wrap, IntKind.bits, IntKind.signed]; omega
        subst hA1
        clear HR hr1 hr2 hr3 hA3 hxr hlen1 hx1 HS1 hby hrd ht hl8 hbn hl8e
        go_wp2_with fail
        refine (HL8.out _).mono ?_
        rintro e w2 ⟨rfl, rfl⟩
        go_wp2_with fail
        go_ret
        refine ⟨rfl, ⟨some a1, c', ?_, ?_⟩, (Chg.refl NoB w2).alloc _⟩
        · rw [HE.out, ← HBN.out, ← HR1.out, show (bn : Int) = 8 * ((n' : Int) - 1) + (l8 : Int) from by omega]
          exact Blk.new w2 _ [.slice (some a1) n' c', .int .u16 (8 * ((n' : Int) - 1) + (l8 : Int))]
        · rw [HE.out]; exact HR2.out.alloc _
/-- How a number of octets without zeros ahead is written. -/
def mpiL (z : List Int) : List Int := [(bitsN z : Int) / 256, (bitsN z : Int) % 256] ++ z
set_option maxRecDepth 100000 in
set_option maxHeartbeats 2000000 in
theorem implNewMpi_any (A : Option Addr) (n c : Nat) (xs : List Int) (w : World) (zl t : Nat) (hn : n = xs.length) (hx : Rb w A xs) (hb : Byt xs) (hl : n ≤ 8191) (hzl : zl = (sig xs).length) (ht : t = 2 + zl) :
    Calls Tryd.prog 28 #[.slice A n c] w fun e w' => (∃ (A1 : Option Addr) (c1 : Nat) (A2 : Option Addr) (c2 : Nat), e = .returned (.agg #[.slice A1 zl c1, .int .i64 (bitsN (sig xs)), .slice A2 t c2, .int .i64 t]) ∧ Rb w' A1 (sig xs) ∧ Rb w' A2 (mpiL (sig xs))) ∧ Chg NoB w w' := by
  have HX := As.mk hx
  have HN := As.mk hn
  have hsl := sig_length xs
  have hzb := sig_byt hb
  have hzz : (sig xs).length = 0 ∨ rd (sig xs) 0 ≠ 0 := by
    by_cases h : sig xs = []
    · exact Or.inl (by rw [h]; rfl)
    · exact Or.inr (sig_head h)
  have hbb := bitsN_bytes hzb hzz
  have HNM := As.mk (fun (A0 : Option Addr) (c0 : Nat) (w0 : World) (h1 : n ≤ c0) (h2 : Rb w0 A0 xs) => newMPI_any A0 n c0 xs w0 hn h1 h2 hb hl)
  obtain ⟨z, hz⟩ : ∃ z, z = sig xs := ⟨_, rfl⟩
  rw [← hz] at HNM hzl hbb hsl ⊢
  have HFI := As.mk (fun (g : Nat) (A0 : Option Addr) (c0 : Nat) (w0 : World) (h1 : Blk w0 g 120 [.slice A0 zl c0, .int .u16 (bitsN z)]) (h2 : Rb w0 A0 z) => fieldMpi_any g A0 zl c0 (bitsN z) z w0 h1 (by omega) hzl h2 (by omega))
  have HL2 : As ([(bitsN z : Int) / 256, (bitsN z : Int) % 256] ++ z = mpiL z) := ⟨rfl⟩
  have HML : As ((mpiL z).length = t ∧ z.length = zl) := ⟨by unfold mpiL; simp; omega, hzl.symm⟩
  rw [HL2.out, show 2 + (zl : Int) = (t : Int) from by omega] at HFI
  rw [← hzl] at HNM
  generalize mpiL z = L at *
  generalize bitsN z = B at *
  have hBi : B ≤ 65528 := by omega
  clear hx hn hb hz hzl ht hbb hsl hzb hzz HL2
  go_enter Tryd.func28, Tryd.ntmps28
  go_wp2_with fail
  have C0 : As (Chg NoB w _) := ⟨(Chg.refl NoB w).alloc (.cells #[.slice none 0 0, .int .i64 0, .slice none 0 0, .int .i64 0] 54)⟩
  refine (own_any A n c xs _ HN.out (HX.out.keep C0.out) (by have := HN.out; omega)).mono ?_
  rintro e w1 ⟨v1, rfl, ho1, hc1⟩
  obtain ⟨A1, c1, hv, hnc1, hr1, _⟩ := own_form ho1
  rw [← HN.out] at hv hnc1
  subst hv
  have HR1 := As.mk hr1
  have C1 := As.mk (C0.out.trans hc1 (fun _ _ e => e))
  have F1 := As.mk ((Blk.new w 54 [.slice none 0 0, .int .i64 0, .slice none 0 0, .int .i64 0]).chg hc1 (fun e => e))
  clear ho1 hc1 hr1
  go_wp2_with fail
  refine (HNM.out A1 c1 _ hnc1 HR1.out).mono ?_
  rintro e w2 ⟨rfl, ⟨A2, c2, hb2, hr2⟩, hc2⟩
  have HB2 := As.mk hb2
  have HR2 := As.mk hr2
  have C2 := As.mk (C1.out.trans hc2 (fun _ _ e => e))
  have F2 := As.mk (F1.out.chg hc2 (fun e => e))
  clear hb2 hr2 hc2
  go_wp2_with fail
  refine (HFI.out w1.heap.size A2 c2 _ HB2.out HR2.out).mono ?_
  rintro e w3 ⟨A3, c3, A4, c4, rfl, hr3, hr4, hc3, ha3, ha4⟩
  rw [HML.out.1, HML.out.2]
  have f3 := F2.out.chg hc3 (fun e => e)
  have x0 := f3.cell 0
  have x1 := f3.cell 1
  have x2 := f3.cell 2
  have x3 := f3.cell 3
  have y0 := f3.frozen 0
  have y1 := f3.frozen 1
  have y2 := f3.frozen 2
  have y3 := f3.frozen 3
  simp only [List.getElem?_cons_zero, List.getElem?_cons_succ] at x0 x1 x2 x3
  have HR3 := As.mk hr3
  have HR4 := As.mk hr4
  have HA3 := As.mk ha3
  have HA4 := As.mk ha4
  have HWL : As (w.heap.size < w2.heap.size) := ⟨F2.out.lt⟩
  have C3 := As.mk (C2.out.trans hc3 (fun _ _ e => e))
  clear hr3 hr4 hc3 f3 ha3 ha4
  go_wp2_with fail
  have hfin : Chg (fun b => b = w.heap.size) w3 _ := ((((Chg.refl (fun b => b = w.heap.size) w3).setCell (p := ⟨w.heap.size, 0, none⟩) (.slice A3 zl c3) (fun _ => rfl)).setCell (p := ⟨w.heap.size, 1, none⟩) (.int .i64 (B : Int)) (fun _ => rfl)).setCell (p := ⟨w.heap.size, 2, none⟩) (.slice A4 t c4) (fun _ => rfl)).setCell (p := ⟨w.heap.size, 3, none⟩) (.int .i64 (t : Int)) (fun _ => rfl)
  refine bodyPost_ret (v := .agg #[.slice A3 zl c3, .int .i64 (B : Int), .slice A4 t c4, .int .i64 (t : Int)]) ?_ rfl ⟨⟨A3, c3, A4, c4, rfl, ?_, ?_⟩, C3.out.trans hfin (fun i hi e => by omega)⟩
  · rw [results_cell_one rfl]
    go_simp
  · exact HR3.out.chg hfin (fun ad e _ h => by have := HA3.out ad e; have := HWL.out; omega)
  · exact HR4.out.chg hfin (fun ad e _ h => by have := HA4.out ad e; have := HWL.out; omega)
end Go.Proofs.YtllcfihbepmphaaDoor
