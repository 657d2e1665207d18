/- The dash escaper's Write: a blank is held back. PRINTED BY dwcut.py -/
import Derived.Test.YtphnjfbaioblbaaDoorDwA
set_option linter.unusedVariables false
set_option linter.unusedSimpArgs false
namespace Go.Proofs.YtphnjfbaioblbaaDoor
open Go.RowKit V
set_option maxRecDepth 1000000 in
set_option maxHeartbeats 8000000 in
theorem dw_blank {w : World} {col : Nat → Nat} {base d bf bb g gh by_ : Nat} {mp pt : Value} {K : Act → World → Prop} {Q : Exit → Act → World → Prop} {A0 : Option Addr} {m0 c0 n1 lj : Nat} {FB1 FH1 : Nat → Prop} {col1 : Nat → Nat} {ws : List Int} {b : Int} {wr : World} {x1 x2 x3 x4 x6 x8 x9 x10 x223 x224 y11 y12 y13 y14 y15 y16 y17 y18 y19 y20 y21 y22 y23 y24 y25 y26 y27 y28 y29 y30 y31 y32 y33 y34 y35 y36 y37 y38 y39 y40 y41 y42 y43 y44 y45 y46 y47 y48 y49 y50 y51 y52 y53 y54 y55 y56 y57 y58 y59 y60 y61 y62 y63 y64 y65 y66 y67 y68 y69 y70 y71 y72 y73 y74 y75 y76 y77 y78 y79 y80 y81 y82 y83 y84 y85 y86 y87 y88 y89 y90 y91 y92 y93 y94 y95 y96 y97 y98 y99 y100 y101 y102 y103 y104 y105 y106 y107 y108 y109 y110 y111 y112 y113 y114 y115 y116 y117 y118 y119 y120 y121 y122 y123 y124 y125 y126 y127 y128 y129 y130 y131 y132 y133 y134 y135 y136 y137 y138 y139 y140 y141 y142 y143 y144 y145 y146 y147 y148 y149 y150 y151 y152 y153 y154 y155 y156 y157 y158 y159 y160 y161 y162 y163 y164 y165 y166 y167 y168 y169 y170 y171 y172 y173 y174 y175 y176 y177 y178 y179 y180 y181 y182 y183 y184 y185 y186 y187 y188 y189 y190 y191 y192 y193 y194 y195 y196 y197 y198 y199 y200 y201 y202 y203 y204 y205 y206 y207 y208 y209 y210 y211 y212 y213 y214 y215 y216 y217 y218 y219 y220 y221 y222 : Value} {beg f1 : Bool} {o1 : List Int}
    (HD2 : As (Dq w col base d bf bb g gh by_ mp pt wr (.slice A0 m0 c0) n1 FB1 FH1 col1 lj ⟨beg, f1, ws, o1⟩ b)) (HM0 : As (m0 = ws.length)) (HLW : As (m0 ≤ 3000))
    (HK : As (blankB b = false → ∀ {y11 y12 y13 y14 y15 y16 y17 y18 y19 y20 y21 y22 y23 y24 y25 y26 y27 y28 y29 y30 y31 y32 y33 y34 y35 y36 y37 y38 y39 y40 y41 y42 y43 y44 y45 y46 y47 y48 y49 y50 y51 y52 y53 y54 y55 y56 y57 y58 y59 y60 y61 y62 y63 y64 y65 y66 y67 y68 y69 y70 y71 y72 y73 y74 y75 y76 y77 y78 y79 y80 y81 y82 y83 y84 y85 y86 y87 y88 y89 y90 y91 y92 y93 y94 y95 y96 y97 y98 y99 y100 y101 y102 y103 y104 y105 y106 y107 y108 y109 y110 y111 y112 y113 y114 y115 y116 y117 y118 y119 y120 y121 y122 y123 y124 y125 y126 y127 y128 y129 y130 y131 y132 y133 y134 y135 y136 y137 y138 y139 y140 y141 y142 y143 y144 y145 y146 y147 y148 y149 y150 y151 y152 y153 y154 y155 y156 y157 y158 y159 y160 y161 y162 y163 y164 y165 y166 y167 y168 y169 y170 y171 y172 y173 y174 y175 y176 y177 y178 y179 y180 y181 y182 y183 y184 y185 y186 y187 y188 y189 y190 y191 y192 y193 y194 y195 y196 y197 y198 y199 y200 y201 y202 y203 y204 y205 y206 y207 y208 y209 y210 y211 y212 y213 y214 y215 y216 y217 y218 y219 y220 y221 y222 : Value}, K ⟨#[.pointer (some ⟨d, 0, none⟩), x1, x2, x3, x4, .nilIface, x6, (.int .u8 b), x8, x9, x10, y11, y12, y13, y14, y15, y16, y17, y18, y19, y20, y21, y22, y23, y24, y25, y26, y27, y28, y29, y30, y31, y32, y33, y34, y35, y36, y37, y38, y39, y40, y41, y42, y43, y44, y45, y46, y47, y48, y49, y50, y51, y52, y53, y54, y55, y56, y57, y58, y59, y60, y61, y62, y63, y64, y65, y66, y67, y68, y69, y70, y71, y72, y73, y74, y75, y76, y77, y78, y79, y80, y81, y82, y83, y84, y85, y86, y87, y88, y89, y90, y91, y92, y93, y94, y95, y96, y97, y98, y99, y100, y101, y102, y103, y104, y105, y106, y107, y108, y109, y110, y111, y112, y113, y114, y115, y116, y117, y118, y119, y120, y121, y122, y123, y124, y125, y126, y127, y128, y129, y130, y131, y132, y133, y134, y135, y136, y137, y138, y139, y140, y141, y142, y143, y144, y145, y146, y147, y148, y149, y150, y151, y152, y153, y154, y155, y156, y157, y158, y159, y160, y161, y162, y163, y164, y165, y166, y167, y168, y169, y170, y171, y172, y173, y174, y175, y176, y177, y178, y179, y180, y181, y182, y183, y184, y185, y186, y187, y188, y189, y190, y191, y192, y193, y194, y195, y196, y197, y198, y199, y200, y201, y202, y203, y204, y205, y206, y207, y208, y209, y210, y211, y212, y213, y214, y215, y216, y217, y218, y219, y220, y221, y222, x223, x224], []⟩ wr))
    (HX : As (blankB b = true → ∀ (wx : World) (v3 : Value) (col3 : Nat → Nat), Dq w col base d bf bb g gh by_ mp pt wx v3 n1 FB1 FH1 col3 lj ⟨false, f1, ws ++ [b], o1⟩ b → ∀ {y11 y12 y13 y14 y15 y16 y17 y18 y19 y20 y21 y22 y23 y24 y25 y26 y27 y28 y29 y30 y31 y32 y33 y34 y35 y36 y37 y38 y39 y40 y41 y42 y43 y44 y45 y46 y47 y48 y49 y50 y51 y52 y53 y54 y55 y56 y57 y58 y59 y60 y61 y62 y63 y64 y65 y66 y67 y68 y69 y70 y71 y72 y73 y74 y75 y76 y77 y78 y79 y80 y81 y82 y83 y84 y85 y86 y87 y88 y89 y90 y91 y92 y93 y94 y95 y96 y97 y98 y99 y100 y101 y102 y103 y104 y105 y106 y107 y108 y109 y110 y111 y112 y113 y114 y115 y116 y117 y118 y119 y120 y121 y122 y123 y124 y125 y126 y127 y128 y129 y130 y131 y132 y133 y134 y135 y136 y137 y138 y139 y140 y141 y142 y143 y144 y145 y146 y147 y148 y149 y150 y151 y152 y153 y154 y155 y156 y157 y158 y159 y160 y161 y162 y163 y164 y165 y166 y167 y168 y169 y170 y171 y172 y173 y174 y175 y176 y177 y178 y179 y180 y181 y182 y183 y184 y185 y186 y187 y188 y189 y190 y191 y192 y193 y194 y195 y196 y197 y198 y199 y200 y201 y202 y203 y204 y205 y206 y207 y208 y209 y210 y211 y212 y213 y214 y215 y216 y217 y218 y219 y220 y221 y222 : Value}, Q (.exit 1) ⟨#[.pointer (some ⟨d, 0, none⟩), x1, x2, x3, x4, .nilIface, x6, (.int .u8 b), x8, x9, x10, y11, y12, y13, y14, y15, y16, y17, y18, y19, y20, y21, y22, y23, y24, y25, y26, y27, y28, y29, y30, y31, y32, y33, y34, y35, y36, y37, y38, y39, y40, y41, y42, y43, y44, y45, y46, y47, y48, y49, y50, y51, y52, y53, y54, y55, y56, y57, y58, y59, y60, y61, y62, y63, y64, y65, y66, y67, y68, y69, y70, y71, y72, y73, y74, y75, y76, y77, y78, y79, y80, y81, y82, y83, y84, y85, y86, y87, y88, y89, y90, y91, y92, y93, y94, y95, y96, y97, y98, y99, y100, y101, y102, y103, y104, y105, y106, y107, y108, y109, y110, y111, y112, y113, y114, y115, y116, y117, y118, y119, y120, y121, y122, y123, y124, y125, y126, y127, y128, y129, y130, y131, y132, y133, y134, y135, y136, y137, y138, y139, y140, y141, y142, y143, y144, y145, y146, y147, y148, y149, y150, y151, y152, y153, y154, y155, y156, y157, y158, y159, y160, y161, y162, y163, y164, y165, y166, y167, y168, y169, y170, y171, y172, y173, y174, y175, y176, y177, y178, y179, y180, y181, y182, y183, y184, y185, y186, y187, y188, y189, y190, y191, y192, y193, y194, y195, y196, y197, y198, y199, y200, y201, y202, y203, y204, y205, y206, y207, y208, y209, y210, y211, y212, y213, y214, y215, y216, y217, y218, y219, y220, y221, y222, x223, x224], []⟩ wx)) :
    (dwAt [1, 0, 1, 0, 0, 1, 1, 0, 0, 1, 1, 1, 0]).wp Tryd.prog (Exit.then K Q) ⟨#[.pointer (some ⟨d, 0, none⟩), x1, x2, x3, x4, .nilIface, x6, (.int .u8 b), x8, x9, x10, y11, y12, y13, y14, y15, y16, y17, y18, y19, y20, y21, y22, y23, y24, y25, y26, y27, y28, y29, y30, y31, y32, y33, y34, y35, y36, y37, y38, y39, y40, y41, y42, y43, y44, y45, y46, y47, y48, y49, y50, y51, y52, y53, y54, y55, y56, y57, y58, y59, y60, y61, y62, y63, y64, y65, y66, y67, y68, y69, y70, y71, y72, y73, y74, y75, y76, y77, y78, y79, y80, y81, y82, y83, y84, y85, y86, y87, y88, y89, y90, y91, y92, y93, y94, y95, y96, y97, y98, y99, y100, y101, y102, y103, y104, y105, y106, y107, y108, y109, y110, y111, y112, y113, y114, y115, y116, y117, y118, y119, y120, y121, y122, y123, y124, y125, y126, y127, y128, y129, y130, y131, y132, y133, y134, y135, y136, y137, y138, y139, y140, y141, y142, y143, y144, y145, y146, y147, y148, y149, y150, y151, y152, y153, y154, y155, y156, y157, y158, y159, y160, y161, y162, y163, y164, y165, y166, y167, y168, y169, y170, y171, y172, y173, y174, y175, y176, y177, y178, y179, y180, y181, y182, y183, y184, y185, y186, y187, y188, y189, y190, y191, y192, y193, y194, y195, y196, y197, y198, y199, y200, y201, y202, y203, y204, y205, y206, y207, y208, y209, y210, y211, y212, y213, y214, y215, y216, y217, y218, y219, y220, y221, y222, x223, x224], []⟩ wr := by
  obtain ⟨bl, hbl2⟩ : ∃ bl, bl = blankB b := ⟨_, rfl⟩
  have HBL := As.mk hbl2
  clear hbl2
  conv => arg 2; whnf
  obtain ⟨c0d, c3d, c6d, c7d, c8d, c9d, f6d, f7d, f8d, cby, fby, nbd, ndb, hdl, hbl⟩ := HD2.out.cells
  simp only at c6d c7d
  dsimp only
  go_upto_region 10 with fail
  go_cut [53] from 44 to 53 (fun q wx => q = .bool bl ∧ wx = wr)
  case first =>
    by_cases h32 : b = 32
    · subst h32
      go_upto_region 11 with fail
      go_meet
      exact ⟨by rw [HBL.out]; rfl, rfl⟩
    · have e32 : (b == 32) = false := by simp [h32]
      by_cases h9 : b = 9
      · subst h9
        go_upto_region 11 with fail
        go_meet
        exact ⟨by rw [HBL.out]; rfl, rfl⟩
      · have e9 : (b == 9) = false := by simp [h9]
        by_cases h13 : b = 13
        · subst h13
          go_upto_region 11 with fail
          go_meet
          exact ⟨by rw [HBL.out]; rfl, rfl⟩
        · have e13 : (b == 13) = false := by simp [h13]
          go_upto_region 11 with fail
          go_meet
          exact ⟨by rw [HBL.out]; simp [blankB, e32, e9, e13], rfl⟩
  case rest =>
    obtain ⟨rfl, rfl⟩ := hcut
    cases bl with
    | true =>
      have HA2 := As.mk (HD2.out.keep ((Chg.refl NoB wc).alloc (.cells #[.int .u8 b] 5)))
      have HR2 := As.mk (own_reads (own_lit wc 0 5 .u8 [b] (Nat.zero_le _) (by simp [maxLen])))
      have HSM : As ((ws.length + 1) * 1 ≤ 140737488355328) := ⟨by have := HLW.out; have := HM0.out; omega⟩
      go_wp2_with (at_builtin; refine wpList_append_rk rfl _ _ 25 rfl 5 .u8 1 Tryd.underlying25 info8 (by decide) _ base ws [b] (some ⟨wc.heap.size, 0, none⟩) 1 rfl rfl HA2.out.ds.ws HR2.out HA2.out.ds.hb HSM.out ?_; intro v3 w3 ho3 hg3 hb3; have HD3 := As.mk (HA2.out.held ho3 hg3 hb3); have b3 := HA2.out.ds.blk.chg (grown_chg hg3) (fun e => by have := HA2.out.ds.cw _ e; have := HA2.out.ds.cd; omega); have f3 := b3.frozen 8; have f36 := b3.frozen 6; have c38 : w3.cell? ⟨d, 8, none⟩ = some (.slice A0 m0 c0) := b3.cell 8; have c36 : w3.cell? ⟨d, 6, none⟩ = some (.bool beg) := b3.cell 6; clear b3; obtain ⟨A3, c03, hv3, _, _⟩ := ow_form (ow_of ho3); generalize hm3 : (ws ++ [b]).length = m3 at hv3; clear hm3; subst hv3; clear ho3 hg3 hb3)
      exact HX.out HBL.out.symm _ _ _ (HD3.out.beg false)
    | false =>
      go_wp2_with fail
      exact HK.out HBL.out.symm
end Go.Proofs.YtphnjfbaioblbaaDoor
