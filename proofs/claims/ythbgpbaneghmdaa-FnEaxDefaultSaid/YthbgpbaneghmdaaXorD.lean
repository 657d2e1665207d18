/- The contract of crypto/subtle.XORBytes: the exclusive or of two rows into a part of a row of the call's own. -/
import Derived.Test.YthbgpbaneghmdaaXorC
set_option linter.unusedVariables false
set_option linter.unusedSimpArgs false
namespace Go.Proofs.Ythbgpbaneghmdaa
open Go.RowKit V
/-- What XORBytes leaves. -/
def XorInto (w : World) (base g N cap : Nat) (zs : List Int) (off n : Nat) (xs ys : List Int) (e : Ending) (w' : World) : Prop :=
  e = .returned (.int .i64 n) ∧ Own w' base 5 .u8 (.slice (some ⟨g, 0, none⟩) N cap) (splice zs off (xorZ (xs.take n) (ys.take n))) ∧ Chg (fun b => b = g) w w'
attribute [-go_sem] run_min_int2
set_option maxRecDepth 100000 in
set_option maxHeartbeats 2000000 in
theorem xorBytes_fips {g off n dn dc xc yc nx ny base N cap : Nat} {zs xs ys : List Int} {X Y : Addr} {w : World} (HO : Own w base 5 .u8 (.slice (some ⟨g, 0, none⟩) N cap) zs) (hoff : off + n ≤ N) (hnd : n ≤ dn) (hdc : dn ≤ dc)
    (rx : Rb w (some X) xs) (ry : Rb w (some Y) ys) (bx : Byt xs) (by_ : Byt ys) (hnx : nx = xs.length) (hny : ny = ys.length) (hxc : nx ≤ xc) (hyc : ny ≤ yc) (hn : n = min nx ny) (h1 : 1 ≤ n) (sx : Sep g off n X) (sy : Sep g off n Y) :
    Calls Try.prog 125 #[.slice (some ⟨g, off, none⟩) dn dc, .slice (some X) nx xc, .slice (some Y) ny yc] w (XorInto w base g N cap zs off n xs ys) := by
  have hN : N = zs.length := own_len HO
  subst hN
  have cx := (rx.2 (by omega)).choose_spec
  obtain ⟨X', eX, _, cX⟩ := rx.2 (by omega)
  injection eX with eX; subst eX
  obtain ⟨Y', eY, _, cY⟩ := ry.2 (by omega)
  injection eY with eY; subst eY
  have c0 := cX 0 (by omega)
  have d0 := cY 0 (by omega)
  have a1 : X.add 0 = X := by simp [Addr.add]
  have a2 : Y.add 0 = Y := by simp [Addr.add]
  have a0 : (⟨g, off, none⟩ : Addr).add 0 = ⟨g, off, none⟩ := by simp [Addr.add]
  rw [a1] at c0
  rw [a2] at d0
  have I1 := fun m : Nat => inexact_no (w := w.drewN m) (cd := dc) (cx := xc) HO c0 sx h1
  have I2 := fun m : Nat => inexact_no (w := w.drewN m) (cd := dc) (cx := yc) HO d0 sy h1
  have k1 : ∀ W : World, (Instr.slice 22 (.slice (some ⟨g, off, none⟩) dn dc) none (some (.int .i64 (n : Int))) none).run Try.prog W = .ok (.slice (some ⟨g, off, none⟩) n dc) W := cut_to (P := Try.prog) 22 5 Try.underlying22 size8 (some ⟨g, off, none⟩) dn dc (n : Int) .i64 n rfl (by omega)
  have k2 : ∀ W : World, (Instr.slice 22 (.slice (some X) nx xc) none (some (.int .i64 (n : Int))) none).run Try.prog W = .ok (.slice (some X) n xc) W := cut_to (P := Try.prog) 22 5 Try.underlying22 size8 (some X) nx xc (n : Int) .i64 n rfl (by omega)
  have k3 : ∀ W : World, (Instr.slice 22 (.slice (some Y) ny yc) none (some (.int .i64 (n : Int))) none).run Try.prog W = .ok (.slice (some Y) n yc) W := cut_to (P := Try.prog) 22 5 Try.underlying22 size8 (some Y) ny yc (n : Int) .i64 n rfl (by omega)
  have E := fun m : Nat => run_xorBytes_own (P := Try.prog) (w.drewN m) base g cap zs HO off n hoff X Y xs ys rx ry bx by_ (by omega) (by omega)
  have EE := As.mk E
  have hmin : ∀ W : World, (Builtin.min_ #[3, 3] 3 #[.int .i64 (nx : Int), .int .i64 (ny : Int)]).run Try.prog W = .ok (.int .i64 (n : Int)) W := fun W => by
    rw [run_min_int2]
    congr 2
    split <;> omega
  have hb : (((n : Nat) : Int) == 0) = false := by simp; omega
  have hnd2 : ¬ ((dn : Int) < (n : Int)) := by omega
  have p0 : (0 : Int) < (dn : Int) := by omega
  have p1 : (0 : Int) < (nx : Int) := by omega
  have p2 : (0 : Int) < (ny : Int) := by omega
  have q0 : 0 < dn := by omega
  have q1 : 0 < nx := by omega
  have q2 : 0 < ny := by omega
  clear E cx cX cY c0 d0 rx ry HO bx by_ sx sy hnx hny hn hxc hyc hdc hnd hoff h1
  go_enter Try.func125, Try.ntmps125
  go_wp2
  go_quiet (first | with_reducible exact Calls.quiet_of (I1 _) | with_reducible exact Calls.quiet_of (I2 _))
  go_wp2
  obtain ⟨w1, hrun, ho, hg⟩ := EE.out (nq + 1)
  have hr := xorBytes_run _ _ _ _ _ _ hrun
  have HO1 := As.mk ho
  have HG1 := As.mk hg
  clear ho hg hrun I1 I2
  go_still_tail 7, (by kernel_rfl)
  change wpList _ _ _ _ _ (World.drew (World.drewN w nq))
  go_wp2
  go_ret
  exact ⟨rfl, HO1.out, ((Chg.refl _ w).drewN (nq + 1)).grown HG1.out (fun k _ e => by injection e with e; exact e.symm)⟩
set_option maxRecDepth 100000 in
theorem xorBytes_own {g off n dn dc xc yc nx ny base N cap : Nat} {zs xs ys : List Int} {X Y : Addr} {w : World} (HO : Own w base 5 .u8 (.slice (some ⟨g, 0, none⟩) N cap) zs) (hoff : off + n ≤ N) (hnd : n ≤ dn) (hdc : dn ≤ dc)
    (rx : Rb w (some X) xs) (ry : Rb w (some Y) ys) (bx : Byt xs) (by_ : Byt ys) (hnx : nx = xs.length) (hny : ny = ys.length) (hxc : nx ≤ xc) (hyc : ny ≤ yc) (hn : n = min nx ny) (h1 : 1 ≤ n) (sx : Sep g off n X) (sy : Sep g off n Y) :
    Calls Try.prog 124 #[.slice (some ⟨g, off, none⟩) dn dc, .slice (some X) nx xc, .slice (some Y) ny yc] w (XorInto w base g N cap zs off n xs ys) := by
  have H := As.mk (xorBytes_fips HO hoff hnd hdc rx ry bx by_ hnx hny hxc hyc hn h1 sx sy)
  clear HO hoff hnd hdc rx ry bx by_ hnx hny hxc hyc hn h1 sx sy
  go_enter Try.func124, Try.ntmps124
  go_wp2_with fail
  refine H.out.mono ?_
  rintro e w1 ⟨rfl, h2, h3⟩
  have H2 := As.mk h2
  clear H
  have H3 := As.mk h3
  clear h2 h3
  go_wp2
  go_ret
  exact ⟨rfl, H2.out, H3.out⟩
end Go.Proofs.Ythbgpbaneghmdaa
