/- The contract of laws.fewCalls. -/
import Derived.Test.YthbgpbaneghmdaaAead
set_option linter.unusedVariables false
set_option linter.unusedSimpArgs false
namespace Go.Proofs.Ythbgpbaneghmdaa
open Go.RowKit V
/-- Few calls, with nonces of m bytes: what is used of it. -/
def Few (m : Nat) (cs : List Cal) : Prop := (∀ x ∈ cs, x.a.2.1 = m ∧ x.b.2.1 + x.c.2.1 ≤ 4096) ∧ cs.length ≤ 40
def FewPost (m : Nat) (cs : List Cal) (w : World) (e : Ending) (w' : World) : Prop := ∃ b : Bool, e = .returned (.bool b) ∧ (b = true → Few m cs) ∧ ∃ q, w' = w.drewN q
set_option maxRecDepth 100000 in
set_option maxHeartbeats 2000000 in
theorem few_any (A : Option Addr) (n c m : Nat) (cs : List Cal) (w : World) (hn : n = cs.length) (hr : Rcs w A cs) (hf : Fit36 n cs) (hm : m ≤ 64) :
    Calls Try.prog 15 #[.slice A n c, .int .i64 m] w (FewPost m cs w) := by
  have HR := As.mk hr
  have HN := As.mk hn
  have HF := As.mk hf
  have hn2 := hf.1
  clear hr hn hf
  go_enter Try.func15, Try.ntmps15
  go_wp2_with fail
  go_loopw [5, 6] (fun sv iv wr => ∃ k s q : Nat, k ≤ n ∧ s ≤ 4096 ∧ sv = .int .i64 s ∧ iv = .int .i64 k ∧ wr = w.drewN q ∧ As (∀ j (h : j < cs.length), j < k → cs[j].a.2.1 = m ∧ cs[j].b.2.1 + cs[j].c.2.1 ≤ 4096)) (fun _ iv _ => n - (intOf iv).toNat)
  case atStart => exact ⟨0, 0, 0, Nat.zero_le _, Nat.zero_le _, rfl, rfl, rfl, ⟨fun j h h' => by omega⟩⟩
  case round =>
    obtain ⟨k, s, q, hk, hs, rfl, rfl, rfl, HT⟩ := hrel
    by_cases hlt : k < n
    · have hltz : (k : Int) < (n : Int) := by omega
      have hkc : k < cs.length := by have := HN.out; omega
      obtain ⟨ad, eA, g0, g1, g2, g3⟩ := HR.out.at_ k hkc
      subst eA
      have hfit := HF.out.2 _ (List.getElem_mem hkc)
      have HX : As (cs[k].a.2.1 = m → cs[k].b.2.1 + cs[k].c.2.1 ≤ 4096 → ∀ j (h : j < cs.length), j < k + 1 → cs[j].a.2.1 = m ∧ cs[j].b.2.1 + cs[j].c.2.1 ≤ 4096) := ⟨fun h1 h2 j h h' => by
        by_cases e : j = k
        · subst e; exact ⟨h1, h2⟩
        · exact HT.out j h (by omega)⟩
      obtain ⟨f1, f2, f3⟩ := hfit
      generalize cs[k].a.2.1 = la at *
      generalize cs[k].b.2.1 = lb at *
      generalize cs[k].c.2.1 = lc at *
      generalize cs[k].a.1 = Aa at *
      generalize cs[k].b.1 = Ab at *
      generalize cs[k].c.1 = Ac at *
      generalize cs[k].a.2.2 = ca at *
      generalize cs[k].b.2.2 = cb at *
      generalize cs[k].c.2.2 = cc at *
      generalize cs[k].op = op at *
      have e1 : IntKind.i64.wrap ((k : Int) + 1) = ((k + 1 : Nat) : Int) := by rw [IntKind.wrap_i64]; omega
      have e2 : IntKind.i64.wrap ((s : Int) + (lb : Int)) = ((s + lb : Nat) : Int) := by rw [IntKind.wrap_i64]; omega
      have e3 : IntKind.i64.wrap (((s + lb : Nat) : Int) + (lc : Int)) = ((s + lb + lc : Nat) : Int) := by rw [IntKind.wrap_i64]; omega
      obtain ⟨sl, hsl⟩ : ∃ sl, sl = s + lb := ⟨_, rfl⟩
      rw [← hsl] at e2 e3
      obtain ⟨s2, hs2⟩ : ∃ s2, s2 = sl + lc := ⟨_, rfl⟩
      rw [← hs2] at e3
      have HS := As.mk (And.intro hsl hs2)
      clear hsl hs2 HT
      by_cases ham : la = m
      · have hne : ((la : Int) != (m : Int)) = false := by simp [ham]
        have HAM := As.mk ham
        clear ham
        by_cases h4 : s2 ≤ 4096
        · have h4z : ¬ (4096 : Int) < (s2 : Int) := by omega
          go_wp2_with fail
          go_quiet (fail)
          go_wp2_with fail
          go_roundw
          case rel => exact ⟨k + 1, s2, q + nq, by omega, h4, rfl, by go_num, by simp, ⟨HX.out HAM.out (by have := HS.out; omega)⟩⟩
          case measure => simp [intOf]; omega
        · have h4z : (4096 : Int) < (s2 : Int) := by omega
          go_wp2_with fail
          go_quiet (fail)
          go_wp2_with fail
          go_ret
          exact ⟨false, rfl, (fun h => Bool.noConfusion h), q + nq, by simp⟩
      · have hne : ((la : Int) != (m : Int)) = true := by simp; omega
        clear ham
        go_wp2_with fail
        go_quiet (fail)
        go_wp2_with fail
        go_ret
        exact ⟨false, rfl, (fun h => Bool.noConfusion h), q + nq, by simp⟩
    · have hz : ¬ ((k : Int) < (n : Int)) := by omega
      have HAll : As (∀ x ∈ cs, x.a.2.1 = m ∧ x.b.2.1 + x.c.2.1 ≤ 4096) := ⟨fun v hv => by
        obtain ⟨j, hj, rfl⟩ := List.mem_iff_getElem.1 hv
        exact HT.out j hj (by have := HN.out; omega)⟩
      clear HT
      by_cases h40 : n ≤ 40
      · have h40z : (n : Int) ≤ 40 := by omega
        go_wp2_with fail
        go_ret
        exact ⟨true, rfl, fun _ => ⟨HAll.out, by have := HN.out; omega⟩, q, rfl⟩
      · have h40z : ¬ (n : Int) ≤ 40 := by omega
        go_wp2_with fail
        go_ret
        exact ⟨false, rfl, (fun h => Bool.noConfusion h), q, rfl⟩
end Go.Proofs.Ythbgpbaneghmdaa
