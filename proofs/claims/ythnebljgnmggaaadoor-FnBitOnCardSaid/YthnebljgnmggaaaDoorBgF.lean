/- The contracts of nat.add, alias, nat.cmp for numbers of at most one word. -/
import Derived.Test.YthnebljgnmggaaaDoorBgE
import Derived.LaidEql
set_option linter.unusedVariables false
set_option linter.unusedSimpArgs false
namespace Go.Proofs.YthnebljgnmggaaaDoor
open Go.RowKit V
theorem run_eql_ptr {P : Program} (w : World) {tp te : TypeId} {i j : TypeInfo} (a b : Addr) (r : Bool) (hp : P.underlying tp = some (.pointer te)) (hte : P.info? te = some j) (hsz : j.size ≠ 0) (h : (sameAddr a b).run P w = .ok r w) :
    (binOp .eql tp (.pointer (some a)) (.pointer (some b))).run P w = .ok (.bool r) w := by
  have h2 : ∀ d : Nat, (Op.equalIn (d + 1) tp (.pointer (some a)) (.pointer (some b))).run P w = .ok r w := fun d => by
    simp [Op.equalIn, run_underlying hp, sizeOf, typeInfo, hte, hsz, h]
  simp only [binOp]
  simp [Op.equal, Op.maxDepth, h2 9999]
theorem eqlW_apart {w : World} {a b : Addr} {ca cb : Array Value} {ta tb : TypeId} (ha : w.heap[a.block]? = some (.cells ca ta (0, 0))) (hb : w.heap[b.block]? = some (.cells cb tb (0, 0))) (hne : a ≠ b) :
    (binOp .eql 59 (.pointer (some a)) (.pointer (some b))).run Tryd.prog w = .ok (.bool false) w := by
  have h1 : Tryd.prog.info? 55 = some ((Tryd.prog.info? 55).getD default) := by kernel_rfl
  have h2 : ((Tryd.prog.info? 55).getD default).size = 1 := by kernel_rfl
  exact run_eql_ptr (i := default) w a b false Tryd.underlying59 h1 (by rw [h2]; omega) (run_sameAddr_other w hne ha hb)
theorem eqlI_apart {w : World} {a b : Addr} {ca cb : Array Value} {ta tb : TypeId} (ha : w.heap[a.block]? = some (.cells ca ta (0, 0))) (hb : w.heap[b.block]? = some (.cells cb tb (0, 0))) (hne : a ≠ b) :
    (binOp .eql 35 (.pointer (some a)) (.pointer (some b))).run Tryd.prog w = .ok (.bool false) w := by
  have h1 : Tryd.prog.info? 42 = some ((Tryd.prog.info? 42).getD default) := by kernel_rfl
  have h2 : ((Tryd.prog.info? 42).getD default).size = 2 := by kernel_rfl
  exact run_eql_ptr (i := default) w a b false Tryd.underlying35 h1 (by rw [h2]; omega) (run_sameAddr_other w hne ha hb)
theorem eqlI_same (w : World) (a : Addr) : (binOp .eql 35 (.pointer (some a)) (.pointer (some a))).run Tryd.prog w = .ok (.bool true) w := by
  have h1 : Tryd.prog.info? 42 = some ((Tryd.prog.info? 42).getD default) := by kernel_rfl
  have h2 : ((Tryd.prog.info? 42).getD default).size = 2 := by kernel_rfl
  exact run_eql_ptr (i := default) w a a true Tryd.underlying35 h1 (by rw [h2]; omega) (run_sameAddr_same w a)
set_option maxRecDepth 100000 in
theorem addVV_any {w : World} {g c d f : Nat} {l : List Int} {X Y : Addr} {x y : Nat} (hB : Blk w g 55 (nums .u64 l)) (hl : 1 ≤ l.length) (hX : w.cell? X = some (.int .u64 (x : Int))) (hXs : X.add 0 = X) (hY : w.cell? Y = some (.int .u64 (y : Int))) (hYs : Y.add 0 = Y) (h : x + y < 18446744073709551616) :
    Calls Tryd.prog 31 #[.slice (some ⟨g, 0, none⟩) 1 c, .slice (some X) 1 d, .slice (some Y) 1 f] w (WordTo w g l (x + y) 0) := by
  have H := As.mk (addVVg_any (c := c) (d := d) (f := f) hB hl hX hXs hY hYs h)
  clear hB hl hX hXs hY hYs h
  go_enter Tryd.func31, Tryd.ntmps31
  go_wp2_with fail
  refine H.out.mono ?_
  rintro e1 w1 ⟨rfl, h1, h2⟩
  have HH := As.mk (And.intro h1 h2)
  clear h1 h2
  go_wp2_with fail
  go_ret
  exact ⟨rfl, HH.out⟩
set_option maxRecDepth 100000 in
set_option maxHeartbeats 1000000 in
/-- alias of two rooms in different blocks. -/
theorem alias_no {w : World} {base base' : Nat} {z v : Value} (hz : Stq w base z) (hv : Stq w base' v) (hne : ∀ b, z.ownBlock = some b → v.ownBlock ≠ some b) :
    Calls Tryd.prog 19 #[z, v] w fun e w' => e = .returned (.bool false) ∧ ∃ q, w' = w.drewN q := by
  rcases hz with rfl | ⟨g, n, c, l, rfl, hg, hB, hl, hn, hc⟩
  · obtain ⟨A, n, c, rfl⟩ : ∃ A n c, v = .slice A n c := by
      rcases hv with rfl | ⟨g, n, c, l, rfl, _⟩
      · exact ⟨_, _, _, rfl⟩
      · exact ⟨_, _, _, rfl⟩
    clear hv hne
    go_enter Tryd.func19, Tryd.ntmps19
    go_wp2_with fail
    go_quiet (fail)
    go_wp2_with fail
    go_ret
    exact ⟨rfl, _, rfl⟩
  · rcases hv with rfl | ⟨g2, n2, c2, l2, rfl, hg2, hB2, hl2, hn2, hc2⟩
    · have hci : (0 : Int) < (c : Int) := by omega
      have hcn : 0 < c := by omega
      clear hne hB hl hn hg hc
      go_enter Tryd.func19, Tryd.ntmps19
      go_wp2_with fail
      go_quiet (fail)
      go_wp2_with fail
      go_ret
      exact ⟨rfl, _, rfl⟩
    · obtain ⟨k, rfl⟩ : ∃ k, c = k + 1 := ⟨c - 1, by omega⟩
      obtain ⟨k2, rfl⟩ : ∃ k2, c2 = k2 + 1 := ⟨c2 - 1, by omega⟩
      have hbl : g ≠ g2 := fun e => hne g rfl (by rw [e]; rfl)
      have HE := fun q : Nat => eqlW_apart (w := w.drewN q) (a := ⟨g, k, none⟩) (b := ⟨g2, k2, none⟩) hB hB2 (fun e => hbl (by injection e))
      obtain ⟨c, hck⟩ : ∃ c, c = k + 1 := ⟨_, rfl⟩
      obtain ⟨c2, hck2⟩ : ∃ c2, c2 = k2 + 1 := ⟨_, rfl⟩
      rw [← hck, ← hck2]
      have s1 : (c : Int) - 1 = (k : Int) := by omega
      have s2 : (c2 : Int) - 1 = (k2 : Int) := by omega
      have p1 : (0 : Int) < (c : Int) := by omega
      have p2 : (0 : Int) < (c2 : Int) := by omega
      have p3 : 0 < c := by omega
      have p4 : 0 < c2 := by omega
      have q1 : (k : Int) < (c : Int) := by omega
      have q2 : (k2 : Int) < (c2 : Int) := by omega
      have q3 : k < c := by omega
      have q4 : k2 < c2 := by omega
      have hm : c ≤ 16 ∧ c2 ≤ 16 := by omega
      have w1 : IntKind.i64.wrap (k : Int) = (k : Int) := by simp [IntKind.wrap, IntKind.bits, IntKind.signed]; omega
      have w2 : IntKind.i64.wrap (k2 : Int) = (k2 : Int) := by simp [IntKind.wrap, IntKind.bits, IntKind.signed]; omega
      have w3 : IntKind.i64.wrap (c : Int) = (c : Int) := by simp [IntKind.wrap, IntKind.bits, IntKind.signed]; omega
      have w4 : IntKind.i64.wrap (c2 : Int) = (c2 : Int) := by simp [IntKind.wrap, IntKind.bits, IntKind.signed]; omega
      clear hne hB hl hn hg hc hB2 hl2 hn2 hg2 hc2 hm hck hck2
      go_enter Tryd.func19, Tryd.ntmps19
      go_wp2_with fail
      go_quiet (fail)
      go_wp2_with fail
      go_ret
      exact ⟨rfl, _, rfl⟩
end Go.Proofs.YthnebljgnmggaaaDoor
