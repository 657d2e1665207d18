/- bitcurves' IsOnCurve over numbers of at most one word. -/
import Derived.Test.YthnebljgnmggaaaDoorBgJ
import Derived.Test.YthnebljgnmggaaaDoorBgL
import Derived.Test.YthnebljgnmggaaaDoorBgO
set_option linter.unusedVariables false
set_option linter.unusedSimpArgs false
namespace Go.Proofs.YthnebljgnmggaaaDoor
open Go.RowKit V
/-- A number at Z that has been made since w0. -/
def Own0 (w0 w : World) (Z x : Nat) : Prop := Chg NoB w0 w ∧ ∃ F, It w 0 Z F x ∧ ∀ b, F b → w0.heap.size ≤ b
theorem Own0.fresh (w : World) : Own0 w (w.alloc (.cells #[.bool false, .slice none 0 0] 42)) w.heap.size 0 :=
  ⟨(Chg.refl _ w).alloc _, fun b => b = w.heap.size, ⟨⟨.slice none 0 0, Blk.new w 42 [.bool false, .slice none 0 0], .inl ⟨rfl, rfl⟩, (fun e => nomatch e), fun b => ⟨.inl, fun h => h.elim id (fun e => nomatch e)⟩⟩⟩, fun b e => Nat.le_of_eq e.symm⟩
theorem Own0.set {w0 w1 w2 : World} {Z v : Nat} {F : Nat → Prop} (h1 : Chg NoB w0 w1) (hF : ∀ b, F b → w0.heap.size ≤ b) (h : SetI w1 0 Z F v w2) : Own0 w0 w2 Z v := by
  obtain ⟨F', hI, hc, hg⟩ := h
  refine ⟨h1.trans hc (fun b hb e => absurd hb (by have := hF b e; omega)), F', hI, fun b e => ?_⟩
  rcases hg b e with h | h
  · exact hF b h
  · exact Nat.le_trans h1.size h
theorem own_sq {w0 w1 : World} {Z X a x : Nat} {FX : Nat → Prop} (ho : Own0 w0 w1 Z a) (hx : It w0 0 X FX x) (hl : x < 4294967296) :
    Calls Tryd.prog 13 #[.pointer (some ⟨Z, 0, none⟩), .pointer (some ⟨X, 0, none⟩), .pointer (some ⟨X, 0, none⟩)] w1 fun e w' => e = .returned (.pointer (some ⟨Z, 0, none⟩)) ∧ Own0 w0 w' Z (x * x) := by
  obtain ⟨hc, F, hI, hF⟩ := ho
  refine (MulSq_any hI (hx.keep hc) (fun b h h2 => ?_) (Nat.zero_le _) (Nat.le_refl _) hl).mono fun e w' h => ⟨h.1, Own0.set hc hF h.2⟩
  have := hF b h; have := hx.lt b h2; omega
theorem own_mul {w0 w1 : World} {Z Y a y : Nat} {FY : Nat → Prop} (ho : Own0 w0 w1 Z a) (hy : It w0 0 Y FY y) (ha : a < 4294967296) (hl : y < 4294967296) :
    Calls Tryd.prog 13 #[.pointer (some ⟨Z, 0, none⟩), .pointer (some ⟨Z, 0, none⟩), .pointer (some ⟨Y, 0, none⟩)] w1 fun e w' => e = .returned (.pointer (some ⟨Z, 0, none⟩)) ∧ Own0 w0 w' Z (a * y) := by
  obtain ⟨hc, F, hI, hF⟩ := ho
  refine (MulIn_any hI (hy.keep hc) (fun b h h2 => ?_) (Nat.zero_le _) ha hl).mono fun e w' h => ⟨h.1, Own0.set hc hF h.2⟩
  have := hF b h; have := hy.lt b h2; omega
theorem own_mod {w0 w1 : World} {Z Y a y : Nat} {FY : Nat → Prop} (ho : Own0 w0 w1 Z a) (hy : It w0 0 Y FY y) (hl : 2 ≤ y) (hl2 : y < 18446744073709551616) :
    Calls Tryd.prog 14 #[.pointer (some ⟨Z, 0, none⟩), .pointer (some ⟨Z, 0, none⟩), .pointer (some ⟨Y, 0, none⟩)] w1 fun e w' => e = .returned (.pointer (some ⟨Z, 0, none⟩)) ∧ Own0 w0 w' Z (a % y) := by
  obtain ⟨hc, F, hI, hF⟩ := ho
  refine (Mod_any hI (hy.keep hc) (fun b h h2 => ?_) (Nat.zero_le _) hl hl2).mono fun e w' h => ⟨h.1, Own0.set hc hF h.2⟩
  have := hF b h; have := hy.lt b h2; omega
theorem own_add {w0 w1 : World} {Z Y a y : Nat} {FY : Nat → Prop} (ho : Own0 w0 w1 Z a) (hy : It w0 0 Y FY y) (hl : a + y < 18446744073709551616) :
    Calls Tryd.prog 15 #[.pointer (some ⟨Z, 0, none⟩), .pointer (some ⟨Z, 0, none⟩), .pointer (some ⟨Y, 0, none⟩)] w1 fun e w' => e = .returned (.pointer (some ⟨Z, 0, none⟩)) ∧ Own0 w0 w' Z (a + y) := by
  obtain ⟨hc, F, hI, hF⟩ := ho
  refine (Add_any hI (hy.keep hc) (fun b h h2 => ?_) (Nat.zero_le _) hl).mono fun e w' h => ⟨h.1, Own0.set hc hF h.2⟩
  have := hF b h; have := hy.lt b h2; omega
theorem cube_lt {x : Nat} (h : x < 65536) : x * x < 4294967296 ∧ x * x * x < 281474976710656 := by
  have h1 : x * x ≤ 65535 * 65535 := Nat.mul_le_mul (by omega) (by omega)
  have h2 : x * x * x ≤ 65535 * 65535 * 65535 := Nat.mul_le_mul h1 (by omega)
  omega
set_option maxRecDepth 100000 in
set_option maxHeartbeats 4000000 in
theorem IsOnCurve_any {w : World} {C P B X Y p b x y t : Nat} {cs : List Value} {FP FB FX FY : Nat → Prop} (hC : Blk w C t cs) (h1 : cs[1]? = some (.pointer (some ⟨P, 0, none⟩))) (h3 : cs[3]? = some (.pointer (some ⟨B, 0, none⟩)))
    (hp : It w 0 P FP p) (hb : It w 0 B FB b) (hx : It w 0 X FX x) (hy : It w 0 Y FY y) (hp2 : 2 ≤ p) (hl : p < 65536 ∧ b < 65536 ∧ x < 65536 ∧ y < 65536) :
    Calls Tryd.prog 11 #[.pointer (some ⟨C, 0, none⟩), .pointer (some ⟨X, 0, none⟩), .pointer (some ⟨Y, 0, none⟩)] w fun e w' => e = .returned (.bool (decide ((x * x * x + b) % p = y * y % p))) ∧ Chg NoB w w' := by
  have HH := As.mk (And.intro hp (And.intro hb (And.intro hx hy)))
  have HL := As.mk (And.intro hp2 hl)
  have HC := As.mk (And.intro hC (And.intro h1 h3))
  obtain ⟨u, hu⟩ : ∃ u, u = y * y % p := ⟨_, rfl⟩
  obtain ⟨s, hs⟩ : ∃ s, s = (x * x * x + b) % p := ⟨_, rfl⟩
  have hcx := cube_lt hl.2.2.1
  have hcy := cube_lt hl.2.2.2
  have HU := As.mk (And.intro hu (And.intro hs (And.intro hcx hcy)))
  rw [← hu, ← hs]
  obtain ⟨r, hr⟩ : ∃ r, r = decide (s = u) := ⟨_, rfl⟩
  have hr2 : (cmpI s u == 0) = r := by
    rw [hr]
    unfold cmpI
    rcases (by omega : s < u ∨ u < s ∨ s = u) with h | h | h
    · rw [if_pos h]; have : ¬ s = u := by omega
      simp [this]
    · rw [if_neg (by omega), if_pos h]; have : ¬ s = u := by omega
      simp [this]
    · rw [if_neg (by omega), if_neg (by omega)]; simp [h]
  rw [← hr]
  have HR := As.mk hr2
  clear hC h1 h3 hp hb hx hy hp2 hl hu hs hcx hcy hr hr2
  have cells : As (∀ w', Chg NoB w w' → w'.cell? ⟨C, 1, none⟩ = some (.pointer (some ⟨P, 0, none⟩)) ∧ w'.cell? ⟨C, 3, none⟩ = some (.pointer (some ⟨B, 0, none⟩))) := ⟨fun w' hc => ⟨((HC.out.1.chg hc (fun e => e)).cell 1).trans HC.out.2.1, ((HC.out.1.chg hc (fun e => e)).cell 3).trans HC.out.2.2⟩⟩
  go_enter Tryd.func11, Tryd.ntmps11
  go_wp2_with fail
  refine (own_sq (Own0.fresh w) HH.out.2.2.2 (by have := HL.out; omega)).mono ?_
  rintro e1 w1 ⟨rfl, h⟩
  have O1 := As.mk h
  obtain ⟨k1, k3⟩ := cells.out w1 h.1
  clear h
  go_wp2_with fail
  refine (own_mod O1.out HH.out.1 HL.out.1 (by have := HL.out; omega)).mono ?_
  rintro e2 w2 ⟨rfl, h⟩
  have O2 := As.mk h
  clear h k1 k3 O1
  go_wp2_with fail
  refine (own_sq (Own0.fresh w2) (HH.out.2.2.1.keep O2.out.1) (by have := HL.out; omega)).mono ?_
  rintro e3 w3 ⟨rfl, h⟩
  have O3 := As.mk h
  clear h
  go_wp2_with fail
  refine (own_mul O3.out (HH.out.2.2.1.keep O2.out.1) HU.out.2.2.1.1 (by have := HL.out; omega)).mono ?_
  rintro e4 w4 ⟨rfl, h⟩
  have O4 := As.mk h
  obtain ⟨k1, k3⟩ := cells.out w4 (O2.out.1.trans h.1 (fun _ _ e => e))
  clear h O3
  go_wp2_with fail
  refine (own_add O4.out (HH.out.2.1.keep O2.out.1) (by have := HU.out.2.2.1.2; have := HL.out; omega)).mono ?_
  rintro e5 w5 ⟨rfl, h⟩
  have O5 := As.mk h
  clear k1 k3
  obtain ⟨k1, k3⟩ := cells.out w5 (O2.out.1.trans h.1 (fun _ _ e => e))
  clear h O4
  go_wp2_with fail
  refine (own_mod O5.out (HH.out.1.keep O2.out.1) HL.out.1 (by have := HL.out; omega)).mono ?_
  rintro e6 w6 ⟨rfl, h⟩
  have O6 := As.mk h
  clear h O5 k1 k3
  go_wp2_with fail
  have C2 : ∃ F7 F8, It w6 0 w2.heap.size F7 s ∧ It w6 0 w.heap.size F8 u ∧ Chg NoB w w6 ∧ w2.heap.size ≠ w.heap.size := by
    obtain ⟨hc6, F6, hI6, hF6⟩ := O6.out
    obtain ⟨hc2, F2, hI2, hF2⟩ := O2.out
    refine ⟨F6, F2, by rw [HU.out.2.1]; exact hI6, by rw [HU.out.1]; exact hI2.keep hc6, hc2.trans hc6 (fun _ _ e => e), fun e => ?_⟩
    have := hI2.lt _ hI2.at_
    omega
  obtain ⟨F7, F8, i7, i8, c7, ne7⟩ := C2
  refine (Cmp_any i7 i8 ne7).mono ?_
  rintro e8 w8 ⟨rfl, q, rfl⟩
  have c8 := As.mk (c7.trans ((Chg.refl NoB w6).drewN q) (fun _ _ e => e))
  obtain ⟨z, hz⟩ : ∃ z, z = cmpI s u := ⟨_, rfl⟩
  have HZ := HR.out
  rw [← hz] at HZ ⊢
  clear i7 i8 c7 ne7 O6 O2 hz
  go_wp2_with fail
  go_ret
  exact ⟨rfl, c8.out⟩
end Go.Proofs.YthnebljgnmggaaaDoor
