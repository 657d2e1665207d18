/- The dash escaper's Write: a hyphen at a line's beginning. PRINTED BY dwcut.py -/
import Derived.Test.YtphnjfbaioblbaaDoorDwA
set_option linter.unusedVariables false
set_option linter.unusedSimpArgs false
namespace Go.Proofs.YtphnjfbaioblbaaDoor
open Go.RowKit V
set_option maxRecDepth 1000000 in
set_option maxHeartbeats 8000000 in
theorem dw_45 {w : World} {col : Nat → Nat} {base d bf bb g gh by_ : Nat} {mp pt : Value} {K : Act → World → Prop} {Q : Exit → Act → World → Prop} {A0 : Option Addr} {m0 c0 n1 lj : Nat} {FB1 FH1 : Nat → Prop} {col1 : Nat → Nat} {ws : List Int} {wr : World} {x1 x2 x3 x4 x6 x8 x9 x10 x223 x224 y11 y12 y13 y14 y15 y16 y17 y18 y19 y20 y21 y22 y23 y24 y25 y26 y27 y28 y29 y30 y31 y32 y33 y34 y35 y36 y37 y38 y39 y40 y41 y42 y43 y44 y45 y46 y47 y48 y49 y50 y51 y52 y53 y54 y55 y56 y57 y58 y59 y60 y61 y62 y63 y64 y65 y66 y67 y68 y69 y70 y71 y72 y73 y74 y75 y76 y77 y78 y79 y80 y81 y82 y83 y84 y85 y86 y87 y88 y89 y90 y91 y92 y93 y94 y95 y96 y97 y98 y99 y100 y101 y102 y103 y104 y105 y106 y107 y108 y109 y110 y111 y112 y113 y114 y115 y116 y117 y118 y119 y120 y121 y122 y123 y124 y125 y126 y127 y128 y129 y130 y131 y132 y133 y134 y135 y136 y137 y138 y139 y140 y141 y142 y143 y144 y145 y146 y147 y148 y149 y150 y151 y152 y153 y154 y155 y156 y157 y158 y159 y160 y161 y162 y163 y164 y165 y166 y167 y168 y169 y170 y171 y172 y173 y174 y175 y176 y177 y178 y179 y180 y181 y182 y183 y184 y185 y186 y187 y188 y189 y190 y191 y192 y193 y194 y195 y196 y197 y198 y199 y200 y201 y202 y203 y204 y205 y206 y207 y208 y209 y210 y211 y212 y213 y214 y215 y216 y217 y218 y219 y220 y221 y222 : Value} {f1 : Bool} {o1 : List Int} 
    (HD2 : As (Dq w col base d bf bb g gh by_ mp pt wr (.slice A0 m0 c0) n1 FB1 FH1 col1 lj ⟨true, f1, ws, o1⟩ 45)) (HM0 : As (m0 = ws.length)) (HMC : As (m0 ≤ c0)) (HLW : As (m0 ≤ 3000)) (HLB : As (lj + 8192 ≤ 140737488355000)) (HOL : As (o1.length ≤ 9002))
    (HK : As (∀ (wx : World) (v3 : Value) (n3 : Nat) (FB3 FH3 : Nat → Prop) (col3 : Nat → Nat), Dq w col base d bf bb g gh by_ mp pt wx v3 n3 FB3 FH3 col3 (lj + 8192) (dashTail ⟨true, f1, ws, o1⟩ 45) 45 → ∀ {y11 y12 y13 y14 y15 y16 y17 y18 y19 y20 y21 y22 y23 y24 y25 y26 y27 y28 y29 y30 y31 y32 y33 y34 y35 y36 y37 y38 y39 y40 y41 y42 y43 y44 y45 y46 y47 y48 y49 y50 y51 y52 y53 y54 y55 y56 y57 y58 y59 y60 y61 y62 y63 y64 y65 y66 y67 y68 y69 y70 y71 y72 y73 y74 y75 y76 y77 y78 y79 y80 y81 y82 y83 y84 y85 y86 y87 y88 y89 y90 y91 y92 y93 y94 y95 y96 y97 y98 y99 y100 y101 y102 y103 y104 y105 y106 y107 y108 y109 y110 y111 y112 y113 y114 y115 y116 y117 y118 y119 y120 y121 y122 y123 y124 y125 y126 y127 y128 y129 y130 y131 y132 y133 y134 y135 y136 y137 y138 y139 y140 y141 y142 y143 y144 y145 y146 y147 y148 y149 y150 y151 y152 y153 y154 y155 y156 y157 y158 y159 y160 y161 y162 y163 y164 y165 y166 y167 y168 y169 y170 y171 y172 y173 y174 y175 y176 y177 y178 y179 y180 y181 y182 y183 y184 y185 y186 y187 y188 y189 y190 y191 y192 y193 y194 y195 y196 y197 y198 y199 y200 y201 y202 y203 y204 y205 y206 y207 y208 y209 y210 y211 y212 y213 y214 y215 y216 y217 y218 y219 y220 y221 y222 : Value}, K ⟨#[.pointer (some ⟨d, 0, none⟩), x1, x2, x3, x4, .nilIface, x6, (.int .u8 45), x8, x9, x10, y11, y12, y13, y14, y15, y16, y17, y18, y19, y20, y21, y22, y23, y24, y25, y26, y27, y28, y29, y30, y31, y32, y33, y34, y35, y36, y37, y38, y39, y40, y41, y42, y43, y44, y45, y46, y47, y48, y49, y50, y51, y52, y53, y54, y55, y56, y57, y58, y59, y60, y61, y62, y63, y64, y65, y66, y67, y68, y69, y70, y71, y72, y73, y74, y75, y76, y77, y78, y79, y80, y81, y82, y83, y84, y85, y86, y87, y88, y89, y90, y91, y92, y93, y94, y95, y96, y97, y98, y99, y100, y101, y102, y103, y104, y105, y106, y107, y108, y109, y110, y111, y112, y113, y114, y115, y116, y117, y118, y119, y120, y121, y122, y123, y124, y125, y126, y127, y128, y129, y130, y131, y132, y133, y134, y135, y136, y137, y138, y139, y140, y141, y142, y143, y144, y145, y146, y147, y148, y149, y150, y151, y152, y153, y154, y155, y156, y157, y158, y159, y160, y161, y162, y163, y164, y165, y166, y167, y168, y169, y170, y171, y172, y173, y174, y175, y176, y177, y178, y179, y180, y181, y182, y183, y184, y185, y186, y187, y188, y189, y190, y191, y192, y193, y194, y195, y196, y197, y198, y199, y200, y201, y202, y203, y204, y205, y206, y207, y208, y209, y210, y211, y212, y213, y214, y215, y216, y217, y218, y219, y220, y221, y222, x223, x224], []⟩ wx)) :
    (dwAt [1, 0, 1, 0, 0, 1, 1, 0, 0, 1, 1, 1, 1]).wp Tryd.prog (Exit.then K Q) ⟨#[.pointer (some ⟨d, 0, none⟩), x1, x2, x3, x4, .nilIface, x6, (.int .u8 45), x8, x9, x10, y11, y12, y13, y14, y15, y16, y17, y18, y19, y20, y21, y22, y23, y24, y25, y26, y27, y28, y29, y30, y31, y32, y33, y34, y35, y36, y37, y38, y39, y40, y41, y42, y43, y44, y45, y46, y47, y48, y49, y50, y51, y52, y53, y54, y55, y56, y57, y58, y59, y60, y61, y62, y63, y64, y65, y66, y67, y68, y69, y70, y71, y72, y73, y74, y75, y76, y77, y78, y79, y80, y81, y82, y83, y84, y85, y86, y87, y88, y89, y90, y91, y92, y93, y94, y95, y96, y97, y98, y99, y100, y101, y102, y103, y104, y105, y106, y107, y108, y109, y110, y111, y112, y113, y114, y115, y116, y117, y118, y119, y120, y121, y122, y123, y124, y125, y126, y127, y128, y129, y130, y131, y132, y133, y134, y135, y136, y137, y138, y139, y140, y141, y142, y143, y144, y145, y146, y147, y148, y149, y150, y151, y152, y153, y154, y155, y156, y157, y158, y159, y160, y161, y162, y163, y164, y165, y166, y167, y168, y169, y170, y171, y172, y173, y174, y175, y176, y177, y178, y179, y180, y181, y182, y183, y184, y185, y186, y187, y188, y189, y190, y191, y192, y193, y194, y195, y196, y197, y198, y199, y200, y201, y202, y203, y204, y205, y206, y207, y208, y209, y210, y211, y212, y213, y214, y215, y216, y217, y218, y219, y220, y221, y222, x223, x224], []⟩ wr := by
  have na := nil_ahead
  have mw := method_write
  have nn := nilNe
  refine wp_mono (Q := Exit.then K (noPanic Q)) ?_ (noPanic_le K Q)
  conv => arg 2; whnf
  obtain ⟨c0d, c3d, c6d, c7d, c8d, c9d, f6d, f7d, f8d, cby, fby, nbd, ndb, hdl, hbl⟩ := HD2.out.cells
  simp only at c6d c7d
  have cm := convMark wr 45 32
  go_wp2_with fail
  clear cm
  have HA2 := As.mk (HD2.out.keep ((Chg.refl NoB wr).alloc (.cells #[.int .u8 45, .int .u8 32] 5 (2, 3))))
  have HR2 := As.mk (rb_mark wr 45 32 5 (2, 3))
  refine (bufWrite_any base bf bb g n1 lj 2 2 FB1 (some ⟨wr.heap.size, 0, none⟩) [45, 32] _ HA2.out.ds.bw HA2.out.ds.hb (by have := HLB.out; omega) rfl (by decide) (by decide) ⟨HR2.out, fun ad e _ => by injection e with e; subst e; exact ⟨by simp, fun h => by have := HD2.out.ds.bw.lt _ h; simp at this⟩⟩).mono ?_
  rintro e w8 ⟨rfl, n8, F8, hb8, hc8, hg8⟩
  have HD8 := As.mk (HA2.out.toB hb8 hc8 hg8)
  obtain ⟨col8, HD8⟩ : ∃ col8, As (Dq w col base d bf bb g gh by_ mp pt w8 (.slice A0 m0 c0) n8 F8 FH1 col8 (lj + 2) ⟨true, f1, ws, o1⟩ 45) := ⟨_, HD8⟩
  clear hb8 hc8 hg8 HA2 HR2 HD2
  clear c0d c3d c6d c7d c8d c9d f6d f7d f8d cby fby nbd ndb hdl hbl
  obtain ⟨c0d, c3d, c6d, c7d, c8d, c9d, f6d, f7d, f8d, cby, fby, nbd, ndb, hdl, hbl⟩ := HD8.out.cells
  simp only at c6d c7d
  go_upto_region 17 with fail
  go_cut [5] from 85 to 98 (fun e wx => e = .nilIface ∧ ∃ (F9 : Nat → Prop) (col9 : Nat → Nat), As (Dq w col base d bf bb g gh by_ mp pt wx (.slice A0 m0 c0) n8 F8 F9 col9 (lj + 2) ⟨true, f1, ws, o1 ++ [45]⟩ 45))
  case first =>
    go_region_law (first
    | (go_simp
       refine (snkWrite_any base gh 1 1 FH1 (some ⟨by_, 0, none⟩) o1 [45] _ rfl (HD8.out.ds.snk.chg (Chg.refl NoB _).drew (fun _ _ e => e)) (by simpa using HD8.out.ds.hb) ((own_reads HD8.out.ds.byte)).drew (by have h9 := HOL.out; show _ + 1 ≤ _; omega)).mono ?_
       rintro e w9 ⟨rfl, F9, hs9, hc9, hg9⟩
       have HD9 := As.mk ((HD8.out.keep (Chg.refl NoB _).drew).toH hs9 hc9 hg9)
       clear hs9 hc9 hg9))
    all_goals
      go_wp2_with fail
      go_meet
      exact ⟨rfl, _, _, HD9⟩
  case rest =>
    obtain ⟨rfl, FH9, col9, HD9⟩ := hcut
    clear HD8
    clear c0d c3d c6d c7d c8d c9d f6d f7d f8d cby fby nbd ndb hdl hbl
    obtain ⟨c0d, c3d, c6d, c7d, c8d, c9d, f6d, f7d, f8d, cby, fby, nbd, ndb, hdl, hbl⟩ := HD9.out.cells
    simp only at c6d c7d
    go_upto_region 24 with fail
    refine wp_world (fun w' => Dq w col base d bf bb g gh by_ mp pt w' (.slice A0 m0 c0) n8 F8 FH9 col9 (lj + 2) ⟨false, f1, ws, o1 ++ [45]⟩ 45) (HD9.out.beg false) ?_
    intro w10 h10w
    clear HD9
    clear c0d c3d c6d c7d c8d c9d f6d f7d f8d cby fby nbd ndb hdl hbl
    have HD10 := As.mk h10w
    clear h10w
    obtain ⟨c0d, c3d, c6d, c7d, c8d, c9d, f6d, f7d, f8d, cby, fby, nbd, ndb, hdl, hbl⟩ := HD10.out.cells
    simp only at c6d c7d
    go_wp2_with fail
    refine (bufWriteByte_any base bf bb g n8 (lj + 2) 45 F8 _ HD10.out.ds.bw HD10.out.ds.hb (by have := HLB.out; have := HLW.out; omega)).mono ?_
    rintro e w8 ⟨rfl, n11, F11, hb8, hc8, hg8⟩
    have HD11 := As.mk (HD10.out.toB hb8 hc8 hg8)
    clear HD10 hb8 hc8 hg8
    clear c0d c3d c6d c7d c8d c9d f6d f7d f8d cby fby nbd ndb hdl hbl
    obtain ⟨c0d, c3d, c6d, c7d, c8d, c9d, f6d, f7d, f8d, cby, fby, nbd, ndb, hdl, hbl⟩ := HD11.out.cells
    simp only at c6d c7d
    go_wp2_with fail
    have HR : As (dashTail ⟨true, f1, ws, o1⟩ 45 = ⟨false, f1, ws, o1 ++ [45]⟩) := ⟨rfl⟩
    exact HK.out _ _ _ _ _ _ (by rw [HR.out]; exact HD11.out.le (by have := HLW.out; omega))
end Go.Proofs.YtphnjfbaioblbaaDoor
