/- The contract of impl.streamed, on an ocfbDecrypter. -/
import Derived.Test.YtnhnfhdbbebclaaOfbD
import Derived.Test.YtnhnfhdbbebclaaStrP
set_option linter.unusedVariables false
set_option linter.unusedSimpArgs false
namespace Go.Proofs.Ytnhnfhdbbebclaa
open Go.RowKit V
theorem na_xD (a : Addr) (w : World) : (nilAhead 285 109 (.pointer (some a)) "XORKeyStream").run Try.prog w = .ok (some false) w := by kernel_rfl
theorem me_xD (a : Addr) (w : World) : (method 285 109 (.pointer (some a)) "XORKeyStream").run Try.prog w = .ok (107, .pointer (some a)) w := by kernel_rfl
def StrD (w : World) (X F : Nat) (yss : List (List Int)) (e : Ending) (w' : World) : Prop :=
  ∃ v, e = .returned v ∧ Rws (fun b => w.heap.size ≤ b) w' w.heap.size 22 v yss ∧ Chg (fun b => b = X ∨ b = F) w w'
set_option maxRecDepth 100000 in
set_option maxHeartbeats 4000000 in
theorem streamedD_any {w : World} {lo hi B n X F base : Nat} {perm sub mask : List Int} {st : List Int × Nat} {A : Option Addr} {m c : Nat} {vs : List Sl} {xss : List (List Int)} (hC : Cph w lo hi B perm sub mask) (hr : RightB perm sub n) (hm : mask.length = n) (bs : Byt sub) (bm : Byt mask)
    (hO : Ofb 110 w X F base B n st) (hX : hi ≤ X) (hF : hi ≤ F) (hmx : m = vs.length) (hrr : Rrs w A vs xss) (hA : ∀ ad, A = some ad → ad.block ≠ X ∧ ad.block ≠ F) (hp : ∀ j (h : j < vs.length) (h' : j < xss.length), Pz (fun b => b ≠ X ∧ b ≠ F) w vs[j] xss[j])
    (hby : ∀ xs ∈ xss, Byt xs) (hlen : xss.length ≤ 4096) (hl : ∀ xs ∈ xss, xs.length ≤ 140737488351232) :
    Calls Try.prog 45 #[.iface 109 (.pointer (some ⟨X, 0, none⟩)), .slice A m c] w (StrD w X F (outsD (encL perm sub mask) n st xss)) := by
  have HR := As.mk hr
  have CB := As.mk hC
  have HM := As.mk hm
  have HBY := As.mk (And.intro bs bm)
  have HO := As.mk hO
  have HXF := As.mk (And.intro hX hF)
  have HMX := As.mk hmx
  have RR := As.mk hrr
  have HA := As.mk hA
  have HP := As.mk hp
  have HPB := As.mk hby
  have HPL := As.mk hl
  have HLEN := As.mk hlen
  have HM60 : m ≤ 4096 := by have := hrr.2.1; omega
  have na := na_xD
  have me := me_xD
  clear hr hC hm bs bm hO hX hF hmx hrr hA hp hby hlen hl
  go_enter Try.func45, Try.ntmps45
  go_wp2_with fail
  go_loopw [5, 11] (fun r iv wr => ∃ (k : Nat) (rv : Value), rv = r ∧ k ≤ m ∧ iv = .int .i64 k ∧ As (Rws (fun b => w.heap.size ≤ b) wr w.heap.size 22 rv (outsD (encL perm sub mask) n st (xss.take k))) ∧ As (Ofb 110 wr X F base B n (runD (encL perm sub mask) n st (xss.take k).flatten)) ∧ As (Chg (fun b => b = X ∨ b = F) w wr)) (fun _ iv _ => m - (intOf iv).toNat)
  case atStart => exact ⟨0, _, rfl, Nat.zero_le _, rfl, ⟨Rws.nil _ _ _ _⟩, ⟨by simpa [runD] using HO.out⟩, ⟨Chg.refl _ _⟩⟩
  case round =>
    obtain ⟨k, rv, rfl, hk, rfl, HROW, HOF, HC⟩ := hrel
    by_cases hlt : k < m
    · have hkv : k < vs.length := by have := HMX.out; omega
      have hkx : k < xss.length := by have := RR.out.2.1; omega
      have HSTEP := As.mk (outsD_step (E := encL perm sub mask) (n := n) hkx st)
      have HSZ : As ((outsD (encL perm sub mask) n st (xss.take k)).length = k) := ⟨by rw [outsD_length, List.length_take]; omega⟩
      obtain ⟨ad, rfl, hck⟩ := (RR.out.1.chg HC.out (fun ad e _ h => by have := HA.out ad e; omega)).at_ k hkv
      have hpz := (HP.out k hkv hkx).chg HC.out (fun b _ h1 h2 => by omega)
      have hbyt := HPB.out _ (List.getElem_mem hkx)
      have hpl := HPL.out _ (List.getElem_mem hkx)
      generalize vs[k] = p at *
      obtain ⟨PA, pn, pc⟩ := p
      generalize xss[k] = ys at *
      generalize runD (encL perm sub mask) n st (xss.take k).flatten = s1 at *
      generalize outsD (encL perm sub mask) n st (xss.take k) = l at *
      have hpn : pn = ys.length := hpz.1
      have HPZ := As.mk hpz
      have HPN := As.mk hpn
      have HYB := As.mk hbyt
      have hpnb : pn ≤ 140737488351232 := by omega
      have HXLT : As (X < w.heap.size ∧ F < w.heap.size) := ⟨HO.out.1.lt, (own_blocks HO.out.2.1).2⟩
      clear hpz hbyt hpn hpl
      go_wp2_with ((with_reducible refine gate (N := 17) rfl ?_); refine wpList_make_k rfl _ 22 rfl 5 .u8 1 Try.underlying22 info8 (by decide) pn _ rfl rfl (by omega) ?_
                   intro w2 D HD2 ho2 hc2 hz2
                   have O2 := As.mk ho2
                   have C2 := As.mk hc2
                   clear ho2 hc2 hz2)
      have HDB := As.mk (own_blocks O2.out)
      have CA2 : As (Chg (fun b => b = X ∨ b = F) w w2) := ⟨HC.out.trans C2.out (fun _ _ e => e.elim)⟩
      have HOF2 := As.mk (HOF.out.chg C2.out (fun e => e) (fun e => e))
      have HROW2 := As.mk ((HROW.out.mono (K' := fun b => w.heap.size ≤ b ∧ b < wr.heap.size) (fun b hb h => ⟨h, hb⟩)).keep C2.out)
      have HRVB := As.mk HROW.out.lt
      have HPZ2 := As.mk (HPZ.out.chg (S := NoB) C2.out (fun _ _ _ e => e))
      have HCW := HC.out.size
      have HDN : As (D ≠ X ∧ D ≠ F ∧ hi ≤ D ∧ wr.heap.size ≤ D ∧ w.heap.size ≤ wr.heap.size ∧ D < w2.heap.size) := ⟨by have := HDB.out; have := HXLT.out; have := HXF.out; have := HC.out.size; omega⟩
      clear HCW
      refine (xorD_any (CB.out.chg CA2.out (fun b _ h e => by have := HXF.out; omega)) HR.out HM.out HBY.out.1 HBY.out.2 HOF2.out O2.out HPZ2.out.2.2.1 HYB.out HPN.out (by omega) (.inr HXF.out.2) (.inr HXF.out.1) (.inr HDN.out.2.2.1) ⟨HDN.out.1, HDN.out.2.1⟩ (fun ad' e => by
        have h1 := (HPZ.out.2.2.2 ad' e).2
        have h2 := (HPZ.out.2.2.2 ad' e).1
        have := HDN.out
        omega)).mono ?_
      rintro e3 w3 ⟨rfl, ho3, hof3, hc3⟩
      have O3 := As.mk ho3
      have OF3 := As.mk hof3
      have CA3 : As (Chg (fun b => b = X ∨ b = F) w w3) := ⟨CA2.out.trans hc3 (fun b hb e => by have := HDN.out; omega)⟩
      have HROW3 := As.mk ((HROW2.out.chg hc3 (fun b h1 h2 h3 e => by
        have := HRVB.out b h3
        have := HDN.out; have := HXLT.out; omega) (fun b h1 h2 e => by have := HDN.out; have := HXLT.out; omega)).mono (K' := fun b => w.heap.size ≤ b) (fun b _ h => h.1))
      clear ho3 hof3 hc3 HROW2 HOF2
      obtain ⟨vr, hvl, hvo, hvi⟩ := HROW3.out
      have HVL := As.mk hvl
      have HVO := As.mk hvo
      have HVI := As.mk hvi
      have hal := (Chg.refl NoB w3).alloc (.cells #[.slice (some ⟨D, 0, none⟩) pn pn] 22)
      have HAL := As.mk hal
      have HDR : As (∀ b, rv.ownBlock = some b → b ≠ D) := ⟨fun b h => by have := HRVB.out b h; have := HDN.out; omega⟩
      have HYL : As ((outD (encL perm sub mask) n s1 ys).length = pn) := ⟨by rw [outD_length, HPN.out]⟩
      clear hvl hvo hvi hal
      go_wp2_with (at_builtin; refine wpList_append_s rfl _ _ 43 rfl 22 1 (.slice none 0 0) 24 Try.underlying43 infoRow rfl (by decide) (by decide) rv w.heap.size l.length (vr.map slV) ⟨w3.heap.size, 0, none⟩ 1 [.slice (some ⟨D, 0, none⟩) pn pn] rfl rfl ?k1 rfl ?k2 (by simp [Value.oneCell']) ?k4 ?k5 ?_)
      (case k1 => exact row_keep HVO.out HAL.out)
      (case k2 => exact (Blk.new w3 _ [.slice (some ⟨D, 0, none⟩) pn pn]).news)
      (case k4 => exact Nat.le_trans CA3.out.size HAL.out.size)
      (case k5 => (rw [HSZ.out]; omega))
      intro v4 w4 h2 h3 h5
      have HS4 := As.mk (Rws.snoc (K := fun b => w.heap.size ≤ b) (p := (some ⟨D, 0, none⟩, pn, pn)) (xs := outD (encL perm sub mask) n s1 ys) HVL.out (row_keep HVO.out HAL.out) (fun i p it a b => (HVI.out i p it a b).chg HAL.out (fun _ _ _ e => e))
        ⟨HYL.out.symm, by rw [HYL.out]; exact Nat.le_refl _, (own_reads O3.out).keep HAL.out, fun ad e => by injection e with e; subst e; exact ⟨⟨by have := HDN.out; show w.heap.size ≤ D; omega, fun e => HDR.out _ e rfl⟩, Nat.lt_of_lt_of_le (own_blocks O3.out).2 HAL.out.size⟩⟩
        h2 h3 (h5.imp id (fun h => h.trans (congrArg some (Array.size_push _).symm))))
      have HC4 : As (Chg (fun b => b = X ∨ b = F) w w4) := ⟨(CA3.out.trans HAL.out (fun _ _ e => e.elim)).trans (S' := fun b => rv.ownBlock = some b) (grown_chg h3) (fun i hi e => by have := (HRVB.out i e).1; omega)⟩
      have HOF4 := As.mk ((OF3.out.chg HAL.out (fun e => e) (fun e => e)).chg (grown_chg h3) (fun e => by have := (HRVB.out _ e).1; have := HXLT.out; omega) (fun e => by have := (HRVB.out _ e).1; have := HXLT.out; omega))
      clear h2 h3 h5
      go_wp2_with fail
      go_roundw
      case rel => exact ⟨k + 1, _, rfl, by omega, by go_num, ⟨by rw [HSTEP.out.1]; exact HS4.out⟩, ⟨by rw [HSTEP.out.2]; exact HOF4.out⟩, HC4⟩
      case measure => simp [intOf]; omega
    · obtain rfl : k = m := by omega
      go_wp2_with fail
      go_ret
      refine ⟨_, rfl, ?_, HC.out⟩
      have h1 := HROW.out
      rw [List.take_of_length_le (by have := HMX.out; have := RR.out.2.1; omega)] at h1
      exact h1
end Go.Proofs.Ytnhnfhdbbebclaa
