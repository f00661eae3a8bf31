import Derived.Test.YbulkbgasDoorLk9
namespace Go.Proofs.YbulkbgasDoor
open Go.RowKit Go.Maps
set_option linter.unusedVariables false
attribute [local go_sem ↓] Go.wp_at_zero Go.wp_at_succ

theorem two_boxes (wr : World) (x0 x1 y0 y1 : Value) : (((wr.alloc (.cells #[x0, x1] 65)).alloc (.cells #[y0, y1] 65)).drew.cell? ⟨wr.heap.size, 0, none⟩ = some x0 ∧ ((wr.alloc (.cells #[x0, x1] 65)).alloc (.cells #[y0, y1] 65)).drew.cell? ⟨wr.heap.size, 1, none⟩ = some x1) ∧ (((wr.alloc (.cells #[x0, x1] 65)).alloc (.cells #[y0, y1] 65)).drew.cell? ⟨wr.heap.size + 1, 0, none⟩ = some y0 ∧ ((wr.alloc (.cells #[x0, x1] 65)).alloc (.cells #[y0, y1] 65)).drew.cell? ⟨wr.heap.size + 1, 1, none⟩ = some y1) := by
  have h1 : ((wr.alloc (.cells #[x0, x1] 65)).alloc (.cells #[y0, y1] 65)).drew.heap[wr.heap.size]? = some (.cells #[x0, x1] 65 (0, 0)) := (Below.heap_alloc _ _ _ (by simp)).trans (heap_alloc_new wr _)
  have h2 : ((wr.alloc (.cells #[x0, x1] 65)).alloc (.cells #[y0, y1] 65)).drew.heap[wr.heap.size + 1]? = some (.cells #[y0, y1] 65 (0, 0)) := alloc_at (by simp)
  refine ⟨⟨?_, ?_⟩, ?_, ?_⟩
  · rw [cell_of_row _ _ _ _ _ _ h1]; rfl
  · rw [cell_of_row _ _ _ _ _ _ h1]; rfl
  · rw [cell_of_row _ _ _ _ _ _ h2]; rfl
  · rw [cell_of_row _ _ _ _ _ _ h2]; rfl
noncomputable def lp7 (k : Nat) : Code := ((Ybad.f7.body.map loopsOf).getD [])[k]?.getD .skip

set_option maxRecDepth 1000000 in
set_option maxHeartbeats 4000000 in
theorem ck_round2 (w6 wr : World) (nT i Bu Bl : Nat) (FU FL : Nat → Int) (hnT : nT ≤ 1000) (hi : i < nT) (hBu : Bu < w6.heap.size) (hBl : Bl < w6.heap.size) (hu0 : w6.cell? ⟨Bu, i * 2, none⟩ = some (.int .i64 (FU (i * 2)))) (hu1 : w6.cell? ⟨Bu, i * 2 + 1, none⟩ = some (.int .i64 (FU (i * 2 + 1)))) (hl0 : w6.cell? ⟨Bl, i * 2, none⟩ = some (.int .i64 (FL (i * 2)))) (hl1 : w6.cell? ⟨Bl, i * 2 + 1, none⟩ = some (.int .i64 (FL (i * 2 + 1)))) (h1 : ¬ (0 ≤ FU (i * 2 + 1) ∧ FU (i * 2 + 1) ≤ FL (i * 2))) (N1 : Hid (Below w6.heap.size w6 wr))
    (Q : Exit → Act → World → Prop) (c0 c1 c2 c3 c4 c5 c6 c9 c10 c11 c12 c13 c14 c15 c16 c17 c18 c19 c20 c21 c22 c23 c24 c25 c26 c27 c28 c29 c30 c31 c32 c33 c34 c35 c36 c37 c38 c39 c40 c41 c42 c43 c44 c45 c46 c47 c48 c49 c50 c51 c52 c53 c54 c55 c56 c57 c58 c59 c60 c61 c62 c63 c64 c65 c68 c69 c70 c71 c72 c73 c74 c75 c76 c77 c78 c79 c80 c81 c82 c83 c84 c85 c86 c87 c88 c89 c90 c91 c92 c93 c94 c95 c96 c97 c98 c99 c100 c101 c102 c103 c104 c105 c106 c107 c108 c109 c110 c111 c112 c113 c114 c115 c116 c117 c118 c119 c120 c121 c122 c123 c124 c125 c126 c127 c128 c129 c130 c131 c132 c133 c134 c135 c136 c137 c138 c139 c140 c141 c142 c143 c144 c145 c146 c147 c148 c149 c150 c151 c152 c153 c154 c155 c156 c157 c158 c159 c160 c161 c162 c163 c164 c165 c166 c167 c168 c169 c170 c171 c172 c173 c174 c175 c176 c177 c178 c179 c180 c181 c182 c183 c184 c185 c186 c187 c188 c189 c190 c191 c192 c193 c194 c195 c196 c197 c198 c199 c200 c201 c202 c203 c204 c205 c206 c207 c208 c209 c210 c211 c212 c213 c214 c215 c216 c217 c218 c219 c220 c221 c222 c223 c224 c225 c226 c227 c228 c229 c230 c231 c232 c233 c234 c235 c236 c237 c238 c239 c240 c241 c242 c243 c244 c245 c246 c247 c248 c249 c250 c251 c252 c253 c254 c255 c256 c257 c258 c259 c260 c261 c262 c263 c264 c265 c266 c267 c268 c269 c270 c271 c272 c273 c274 c275 c276 c277 c278 c279 c280 c281 c282 c283 c284 c285 c286 c287 c288 c289 c290 c291 c292 c293 c294 c295 c296 c297 c298 c299 c300 c301 c302 c303 : Value)
    (hq : ∀ (u9 u10 u11 u68 u69 u70 u71 u72 u73 u74 u75 u76 u77 u78 u79 u80 u81 u82 u83 u84 u85 u86 u87 u88 u89 u90 u91 u92 u93 u94 u95 u96 : Value) (wi : World), Below w6.heap.size w6 wi → Q .normal ⟨#[c0, c1, c2, c3, c4, c5, c6, .slice (some ⟨Bu, 0, none⟩) nT nT, .slice (some ⟨Bl, 0, none⟩) nT nT, u9, u10, u11, c12, c13, c14, c15, c16, c17, c18, c19, c20, c21, c22, c23, c24, c25, c26, c27, c28, c29, c30, c31, c32, c33, c34, c35, c36, c37, c38, c39, c40, c41, c42, c43, c44, c45, c46, c47, c48, c49, c50, c51, c52, c53, c54, c55, c56, c57, c58, c59, c60, c61, c62, c63, c64, c65, .int .i64 (nT : Int), .int .i64 ((i + 1 : Nat) : Int), u68, u69, u70, u71, u72, u73, u74, u75, u76, u77, u78, u79, u80, u81, u82, u83, u84, u85, u86, u87, u88, u89, u90, u91, u92, u93, u94, u95, u96, c97, c98, c99, c100, c101, c102, c103, c104, c105, c106, c107, c108, c109, c110, c111, c112, c113, c114, c115, c116, c117, c118, c119, c120, c121, c122, c123, c124, c125, c126, c127, c128, c129, c130, c131, c132, c133, c134, c135, c136, c137, c138, c139, c140, c141, c142, c143, c144, c145, c146, c147, c148, c149, c150, c151, c152, c153, c154, c155, c156, c157, c158, c159, c160, c161, c162, c163, c164, c165, c166, c167, c168, c169, c170, c171, c172, c173, c174, c175, c176, c177, c178, c179, c180, c181, c182, c183, c184, c185, c186, c187, c188, c189, c190, c191, c192, c193, c194, c195, c196, c197, c198, c199, c200, c201, c202, c203, c204, c205, c206, c207, c208, c209, c210, c211, c212, c213, c214, c215, c216, c217, c218, c219, c220, c221, c222, c223, c224, c225, c226, c227, c228, c229, c230, c231, c232, c233, c234, c235, c236, c237, c238, c239, c240, c241, c242, c243, c244, c245, c246, c247, c248, c249, c250, c251, c252, c253, c254, c255, c256, c257, c258, c259, c260, c261, c262, c263, c264, c265, c266, c267, c268, c269, c270, c271, c272, c273, c274, c275, c276, c277, c278, c279, c280, c281, c282, c283, c284, c285, c286, c287, c288, c289, c290, c291, c292, c293, c294, c295, c296, c297, c298, c299, c300, c301, c302, c303], []⟩ wi) :
    Code.wp Ybad.prog (lp7 1) Q ⟨#[c0, c1, c2, c3, c4, c5, c6, .slice (some ⟨Bu, 0, none⟩) nT nT, .slice (some ⟨Bl, 0, none⟩) nT nT, c9, c10, c11, c12, c13, c14, c15, c16, c17, c18, c19, c20, c21, c22, c23, c24, c25, c26, c27, c28, c29, c30, c31, c32, c33, c34, c35, c36, c37, c38, c39, c40, c41, c42, c43, c44, c45, c46, c47, c48, c49, c50, c51, c52, c53, c54, c55, c56, c57, c58, c59, c60, c61, c62, c63, c64, c65, .int .i64 (nT : Int), .int .i64 (i : Int), c68, c69, c70, c71, c72, c73, c74, c75, c76, c77, c78, c79, c80, c81, c82, c83, c84, c85, c86, c87, c88, c89, c90, c91, c92, c93, c94, c95, c96, c97, c98, c99, c100, c101, c102, c103, c104, c105, c106, c107, c108, c109, c110, c111, c112, c113, c114, c115, c116, c117, c118, c119, c120, c121, c122, c123, c124, c125, c126, c127, c128, c129, c130, c131, c132, c133, c134, c135, c136, c137, c138, c139, c140, c141, c142, c143, c144, c145, c146, c147, c148, c149, c150, c151, c152, c153, c154, c155, c156, c157, c158, c159, c160, c161, c162, c163, c164, c165, c166, c167, c168, c169, c170, c171, c172, c173, c174, c175, c176, c177, c178, c179, c180, c181, c182, c183, c184, c185, c186, c187, c188, c189, c190, c191, c192, c193, c194, c195, c196, c197, c198, c199, c200, c201, c202, c203, c204, c205, c206, c207, c208, c209, c210, c211, c212, c213, c214, c215, c216, c217, c218, c219, c220, c221, c222, c223, c224, c225, c226, c227, c228, c229, c230, c231, c232, c233, c234, c235, c236, c237, c238, c239, c240, c241, c242, c243, c244, c245, c246, c247, c248, c249, c250, c251, c252, c253, c254, c255, c256, c257, c258, c259, c260, c261, c262, c263, c264, c265, c266, c267, c268, c269, c270, c271, c272, c273, c274, c275, c276, c277, c278, c279, c280, c281, c282, c283, c284, c285, c286, c287, c288, c289, c290, c291, c292, c293, c294, c295, c296, c297, c298, c299, c300, c301, c302, c303], []⟩ wr := by
  refine Code.wp_mono NoPanic.imp ?_
  have HQ := hid hq
  clear hq
  conv => arg 2; whnf
  have hii : (i : Int) < (nT : Int) := by omega
  have hi0 : (0 : Int) ≤ (i : Int) := by omega
  obtain ⟨a0, ha0⟩ : ∃ a0, FU (i * 2) = a0 := ⟨_, rfl⟩
  obtain ⟨a1, ha1⟩ : ∃ a1, FU (i * 2 + 1) = a1 := ⟨_, rfl⟩
  obtain ⟨b0, hb0⟩ : ∃ b0, FL (i * 2) = b0 := ⟨_, rfl⟩
  obtain ⟨b1, hb1⟩ : ∃ b1, FL (i * 2 + 1) = b1 := ⟨_, rfl⟩
  rw [ha0] at hu0
  rw [ha1] at hu1 h1
  rw [hb0] at hl0 h1
  rw [hb1] at hl1
  clear ha0 ha1 hb0 hb1
  have hz := N1.out.size
  have c0 := (N1.out.cell (p := ⟨Bu, i * 2, none⟩) hBu).trans hu0
  have c1 := (N1.out.cell (p := ⟨Bu, i * 2 + 1, none⟩) hBu).trans hu1
  have c2 := (N1.out.cell (p := ⟨Bl, i * 2, none⟩) hBl).trans hl0
  have c3 := (N1.out.cell (p := ⟨Bl, i * 2 + 1, none⟩) hBl).trans hl1
  have n1 : Bu ≠ wr.heap.size := by omega
  have n2 : Bl ≠ wr.heap.size := by omega
  have n3 : wr.heap.size ≠ Bu := by omega
  have n4 : wr.heap.size ≠ Bl := by omega
  have n5 : wr.heap.size + 1 ≠ Bu := by omega
  have n6 : wr.heap.size + 1 ≠ Bl := by omega
  clear hu0 hu1 hl0 hl1
  go_upto_region 15 with fail
  go_cut [10, 11] from 68 to 96 (fun p1 p2 wd => ∃ B1 B2, p1 = .pointer (some ⟨B1, 0, none⟩) ∧ p2 = .pointer (some ⟨B2, 0, none⟩) ∧ wd.cell? ⟨B1, 1, none⟩ = some (.int .i64 a1) ∧ wd.cell? ⟨B2, 0, none⟩ = some (.int .i64 b0) ∧ Below w6.heap.size w6 wd)
  case first =>
    go_region_held3 (fun W => W.cell? ⟨Bu, i * 2, none⟩ = some (.int .i64 a0) ∧ W.cell? ⟨Bu, i * 2 + 1, none⟩ = some (.int .i64 a1) ∧ W.cell? ⟨Bl, i * 2, none⟩ = some (.int .i64 b0) ∧ W.cell? ⟨Bl, i * 2 + 1, none⟩ = some (.int .i64 b1)) (go_keep) (fail)
    all_goals go_wp2
    all_goals go_meet
    · exact ⟨wr.heap.size, wr.heap.size + 1, rfl, rfl, (two_boxes wr _ _ _ _).1.2, (two_boxes wr _ _ _ _).2.1, ((N1.out.alloc hz _).alloc (by simp; omega) _).drew⟩
    · exact ⟨wr.heap.size + 1, wr.heap.size, rfl, rfl, (two_boxes wr _ _ _ _).2.2, (two_boxes wr _ _ _ _).1.1, ((N1.out.alloc hz _).alloc (by simp; omega) _).drew⟩
  case rest =>
    obtain ⟨B1, B2, rfl, rfl, d1, d2, hb⟩ := hcut
    have N2 := hid hb
    clear hb N1 c0 c1 c2 c3
    by_cases hp : 0 ≤ a1
    · have hq : ¬ a1 ≤ b0 := fun h => h1 ⟨hp, h⟩
      go_wp2_with fail
      have HH := HQ.out
      rw [show ((i + 1 : Nat) : Int) = (i : Int) + 1 from by omega] at HH
      exact HH _ _ _ _ _ _ _ _ _ _ _ _ _ _ _ _ _ _ _ _ _ _ _ _ _ _ _ _ _ _ _ _ _ N2.out
    · go_wp2_with fail
      have HH := HQ.out
      rw [show ((i + 1 : Nat) : Int) = (i : Int) + 1 from by omega] at HH
      exact HH _ _ _ _ _ _ _ _ _ _ _ _ _ _ _ _ _ _ _ _ _ _ _ _ _ _ _ _ _ _ _ _ _ N2.out

end Go.Proofs.YbulkbgasDoor
