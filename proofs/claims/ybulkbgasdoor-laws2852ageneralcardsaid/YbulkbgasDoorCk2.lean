import Derived.Test.YbulkbgasDoorCk1
namespace Go.Proofs.YbulkbgasDoor
open Go.RowKit Go.Maps
set_option linter.unusedVariables false
attribute [local go_sem ↓] Go.wp_at_zero Go.wp_at_succ

/-- latest, via and places. -/
structure CkL (w7 wr : World) (Bla Bvi Bpl nT : Nat) (La Vi Pl : Nat → Int) : Prop where
  la : Fix wr Bla 3 nT (fun j => .int .i64 (La j))
  vi : Fix wr Bvi 3 nT (fun j => .int .i64 (Vi j))
  pl : Fix wr Bpl 3 nT (fun j => .int .i64 (Pl j))
  bel : Below w7.heap.size w7 wr
  ge : w7.heap.size ≤ Bla ∧ w7.heap.size ≤ Bvi ∧ w7.heap.size ≤ Bpl ∧ Bla ≠ Bvi ∧ Bla ≠ Bpl ∧ Bvi ≠ Bpl
section
variable {w7 wr : World} {Bla Bvi Bpl nT : Nat} {La Vi Pl : Nat → Int}
theorem CkL.alloc (h : CkL w7 wr Bla Bvi Bpl nT La Vi Pl) (o : Obj) : CkL w7 (wr.alloc o) Bla Bvi Bpl nT La Vi Pl := ⟨h.la.alloc o, h.vi.alloc o, h.pl.alloc o, h.bel.alloc h.bel.size o, h.ge⟩
theorem CkL.drewN (h : CkL w7 wr Bla Bvi Bpl nT La Vi Pl) (k : Nat) : CkL w7 (wr.drewN k) Bla Bvi Bpl nT La Vi Pl := ⟨h.la.drewN k, h.vi.drewN k, h.pl.drewN k, below_drewN h.bel k, h.ge⟩
theorem CkL.setLa (h : CkL w7 wr Bla Bvi Bpl nT La Vi Pl) {j : Nat} (hj : j < nT) (x : Int) : CkL w7 (wr.setCell ⟨Bla, j, none⟩ (.int .i64 x)) Bla Bvi Bpl nT (updL La j x) Vi Pl := by
  have g := h.ge
  exact ⟨(h.la.set hj _).congr fun i _ => upd_updL La j x i, h.vi.other _ _ (by omega) _, h.pl.other _ _ (by omega) _, h.bel.setCell (p := ⟨Bla, j, none⟩) g.1 _, g⟩
theorem CkL.setVi (h : CkL w7 wr Bla Bvi Bpl nT La Vi Pl) {j : Nat} (hj : j < nT) (x : Int) : CkL w7 (wr.setCell ⟨Bvi, j, none⟩ (.int .i64 x)) Bla Bvi Bpl nT La (updL Vi j x) Pl := by
  have g := h.ge
  exact ⟨h.la.other _ _ (by omega) _, (h.vi.set hj _).congr fun i _ => upd_updL Vi j x i, h.pl.other _ _ (by omega) _, h.bel.setCell (p := ⟨Bvi, j, none⟩) g.2.1 _, g⟩
theorem CkL.setPl (h : CkL w7 wr Bla Bvi Bpl nT La Vi Pl) {j : Nat} (hj : j < nT) (x : Int) : CkL w7 (wr.setCell ⟨Bpl, j, none⟩ (.int .i64 x)) Bla Bvi Bpl nT La Vi (updL Pl j x) := by
  have g := h.ge
  exact ⟨h.la.other _ _ (by omega) _, h.vi.other _ _ (by omega) _, (h.pl.set hj _).congr fun i _ => upd_updL Pl j x i, h.bel.setCell (p := ⟨Bpl, j, none⟩) g.2.2.1 _, g⟩
end

set_option maxRecDepth 1000000 in
set_option maxHeartbeats 4000000 in
theorem ck_round5 (w7 wr : World) (nT i j t Bla Bvi Bpl capx : Nat) (La Vi Pl : Nat → Int) (xs : List Nat) (bx ox : Nat) (hnT : nT ≤ 1000) (hi : i < nT) (hxl : xs.length ≤ 100000) (ht : t < xs.length) (hj : xs[t] = j) (hjn : j < nT) (hbx : bx < w7.heap.size) (hx : w7.cell? ⟨bx, ox + t, none⟩ = some (.int .i64 (j : Int))) (hij : j ≠ i) (N1 : Hid (CkL w7 wr Bla Bvi Bpl nT La Vi Pl))
    (Q : Exit → Act → World → Prop) (c0 c1 c2 c3 c4 c5 c6 c7 c8 c9 c10 c11 c12 c13 c14 c15 c16 c17 c18 c21 c22 c24 c25 c26 c27 c28 c29 c30 c31 c32 c33 c34 c35 c36 c37 c38 c39 c40 c41 c42 c43 c44 c45 c46 c47 c48 c49 c50 c51 c52 c53 c54 c55 c56 c57 c58 c59 c60 c61 c62 c63 c64 c65 c66 c67 c68 c69 c70 c71 c72 c73 c74 c75 c76 c77 c78 c79 c80 c81 c82 c83 c84 c85 c86 c87 c88 c89 c90 c91 c92 c93 c94 c95 c96 c97 c98 c99 c100 c101 c102 c103 c104 c105 c106 c107 c108 c109 c110 c111 c112 c113 c114 c115 c116 c117 c118 c119 c120 c121 c122 c123 c124 c125 c126 c127 c128 c129 c130 c131 c132 c133 c134 c135 c136 c137 c138 c139 c140 c141 c142 c143 c144 c145 c146 c147 c148 c149 c150 c151 c152 c153 c154 c155 c156 c157 c158 c159 c160 c161 c162 c163 c164 c165 c166 c167 c168 c169 c170 c171 c172 c173 c174 c175 c176 c177 c178 c179 c180 c181 c182 c183 c184 c185 c186 c187 c188 c189 c190 c191 c192 c193 c194 c195 c196 c197 c198 c199 c200 c201 c202 c203 c204 c205 c206 c207 c208 c212 c213 c214 c215 c216 c217 c218 c219 c220 c221 c222 c223 c224 c225 c226 c227 c228 c229 c230 c231 c232 c233 c234 c235 c236 c237 c238 c239 c240 c241 c242 c243 c244 c245 c246 c247 c248 c249 c250 c251 c252 c253 c254 c255 c256 c257 c258 c259 c260 c261 c262 c263 c264 c265 c266 c267 c268 c269 c270 c271 c272 c273 c274 c275 c276 c277 c278 c279 c280 c281 c282 c283 c284 c285 c286 c287 c288 c289 c290 c291 c292 c293 c294 c295 c296 c297 c298 c299 c300 c301 c302 c303 : Value)
    (hq : ∀ (u27 u212 u213 u214 u215 u216 u217 u218 u219 u220 u221 u222 u223 u224 u225 u226 u227 u228 u229 u230 u231 u232 u233 u234 u235 : Value) (wi : World), (∃ Vi2, CkL w7 wi Bla Bvi Bpl nT (updL La i (if La j < La i then La j else La i)) Vi2 Pl) → Q .normal ⟨#[c0, c1, c2, c3, c4, c5, c6, c7, c8, c9, c10, c11, c12, c13, c14, c15, c16, c17, c18, .slice (some ⟨Bla, 0, none⟩) nT nT, .slice (some ⟨Bvi, 0, none⟩) nT nT, c21, c22, .int .i64 (i : Int), c24, c25, c26, u27, c28, c29, c30, c31, c32, c33, c34, c35, c36, c37, c38, c39, c40, c41, c42, c43, c44, c45, c46, c47, c48, c49, c50, c51, c52, c53, c54, c55, c56, c57, c58, c59, c60, c61, c62, c63, c64, c65, c66, c67, c68, c69, c70, c71, c72, c73, c74, c75, c76, c77, c78, c79, c80, c81, c82, c83, c84, c85, c86, c87, c88, c89, c90, c91, c92, c93, c94, c95, c96, c97, c98, c99, c100, c101, c102, c103, c104, c105, c106, c107, c108, c109, c110, c111, c112, c113, c114, c115, c116, c117, c118, c119, c120, c121, c122, c123, c124, c125, c126, c127, c128, c129, c130, c131, c132, c133, c134, c135, c136, c137, c138, c139, c140, c141, c142, c143, c144, c145, c146, c147, c148, c149, c150, c151, c152, c153, c154, c155, c156, c157, c158, c159, c160, c161, c162, c163, c164, c165, c166, c167, c168, c169, c170, c171, c172, c173, c174, c175, c176, c177, c178, c179, c180, c181, c182, c183, c184, c185, c186, c187, c188, c189, c190, c191, c192, c193, c194, c195, c196, c197, c198, c199, c200, c201, c202, c203, c204, c205, c206, c207, c208, .slice (some ⟨bx, ox, none⟩) xs.length capx, .int .i64 (xs.length : Int), .int .i64 ((t + 1 : Nat) : Int), u212, u213, u214, u215, u216, u217, u218, u219, u220, u221, u222, u223, u224, u225, u226, u227, u228, u229, u230, u231, u232, u233, u234, u235, c236, c237, c238, c239, c240, c241, c242, c243, c244, c245, c246, c247, c248, c249, c250, c251, c252, c253, c254, c255, c256, c257, c258, c259, c260, c261, c262, c263, c264, c265, c266, c267, c268, c269, c270, c271, c272, c273, c274, c275, c276, c277, c278, c279, c280, c281, c282, c283, c284, c285, c286, c287, c288, c289, c290, c291, c292, c293, c294, c295, c296, c297, c298, c299, c300, c301, c302, c303], []⟩ wi) :
    Code.wp Ybad.prog (lp7 4) Q ⟨#[c0, c1, c2, c3, c4, c5, c6, c7, c8, c9, c10, c11, c12, c13, c14, c15, c16, c17, c18, .slice (some ⟨Bla, 0, none⟩) nT nT, .slice (some ⟨Bvi, 0, none⟩) nT nT, c21, c22, .int .i64 (i : Int), c24, c25, c26, c27, c28, c29, c30, c31, c32, c33, c34, c35, c36, c37, c38, c39, c40, c41, c42, c43, c44, c45, c46, c47, c48, c49, c50, c51, c52, c53, c54, c55, c56, c57, c58, c59, c60, c61, c62, c63, c64, c65, c66, c67, c68, c69, c70, c71, c72, c73, c74, c75, c76, c77, c78, c79, c80, c81, c82, c83, c84, c85, c86, c87, c88, c89, c90, c91, c92, c93, c94, c95, c96, c97, c98, c99, c100, c101, c102, c103, c104, c105, c106, c107, c108, c109, c110, c111, c112, c113, c114, c115, c116, c117, c118, c119, c120, c121, c122, c123, c124, c125, c126, c127, c128, c129, c130, c131, c132, c133, c134, c135, c136, c137, c138, c139, c140, c141, c142, c143, c144, c145, c146, c147, c148, c149, c150, c151, c152, c153, c154, c155, c156, c157, c158, c159, c160, c161, c162, c163, c164, c165, c166, c167, c168, c169, c170, c171, c172, c173, c174, c175, c176, c177, c178, c179, c180, c181, c182, c183, c184, c185, c186, c187, c188, c189, c190, c191, c192, c193, c194, c195, c196, c197, c198, c199, c200, c201, c202, c203, c204, c205, c206, c207, c208, .slice (some ⟨bx, ox, none⟩) xs.length capx, .int .i64 (xs.length : Int), .int .i64 (t : Int), c212, c213, c214, c215, c216, c217, c218, c219, c220, c221, c222, c223, c224, c225, c226, c227, c228, c229, c230, c231, c232, c233, c234, c235, c236, c237, c238, c239, c240, c241, c242, c243, c244, c245, c246, c247, c248, c249, c250, c251, c252, c253, c254, c255, c256, c257, c258, c259, c260, c261, c262, c263, c264, c265, c266, c267, c268, c269, c270, c271, c272, c273, c274, c275, c276, c277, c278, c279, c280, c281, c282, c283, c284, c285, c286, c287, c288, c289, c290, c291, c292, c293, c294, c295, c296, c297, c298, c299, c300, c301, c302, c303], []⟩ wr := by
  refine Code.wp_mono NoPanic.imp ?_
  have HQ := hid hq
  clear hq
  conv => arg 2; whnf
  have hti : (t : Int) < (xs.length : Int) := by omega
  have c0 := (N1.out.bel.cell (p := ⟨bx, ox + t, none⟩) hbx).trans hx
  have c1 := N1.out.la.cell hjn
  have c2 := N1.out.la.cell hi
  try dsimp only at c1 c2
  have hji : (j : Int) < (nT : Int) := by omega
  have hj0 : (0 : Int) ≤ (j : Int) := by omega
  have hii : (i : Int) < (nT : Int) := by omega
  have hi0 : (0 : Int) ≤ (i : Int) := by omega
  obtain ⟨lj, hlj⟩ : ∃ lj, La j = lj := ⟨_, rfl⟩
  obtain ⟨li, hli⟩ : ∃ li, La i = li := ⟨_, rfl⟩
  rw [hlj] at c1
  rw [hli] at c2
  rw [hlj, hli] at HQ
  have HLJ := hid hlj
  have HLI := hid hli
  clear hlj hli hj hx
  go_upto_region 44 with fail
  go_cut [223] from 212 to 235 (fun b wd => b = .bool (decide (lj < li)) ∧ CkL w7 wd Bla Bvi Bpl nT La Vi Pl)
  case first =>
    go_quiet (fail)
    go_wp2
    go_meet
    exact ⟨rfl, N1.out.drewN _⟩
  case rest =>
    obtain ⟨rfl, hc⟩ := hcut
    have N2 := hid hc
    clear hc N1 c0 c1 c2
    by_cases hlt : lj < li
    · rw [decide_eq_true hlt]
      rw [if_pos hlt] at HQ
      have d0 := N2.out.la.cell hjn
      have d1 := N2.out.la.cell hi
      have f1 := N2.out.la.free i
      have g := N2.out.ge
      try dsimp only at d0 d1
      rw [HLJ.out] at d0
      rw [HLI.out] at d1
      have N3 := hid (N2.out.setLa hi lj)
      have d2 := N3.out.vi.cell hi
      have f2 := N3.out.vi.free i
      have N4 := hid (N3.out.setVi hi (j : Int))
      have HLT := hid hlt
      clear hlt
      go_wp2_with fail
      have HH := HQ.out
      rw [show ((t + 1 : Nat) : Int) = (t : Int) + 1 from by omega] at HH
      exact HH _ _ _ _ _ _ _ _ _ _ _ _ _ _ _ _ _ _ _ _ _ _ _ _ _ _ ⟨_, N4.out⟩
    · rw [decide_eq_false hlt]
      rw [if_neg hlt] at HQ
      have e : updL La i li = La := by rw [← HLI.out]; exact updL_self _ _
      go_wp2_with fail
      have HH := HQ.out
      rw [show ((t + 1 : Nat) : Int) = (t : Int) + 1 from by omega, e] at HH
      exact HH _ _ _ _ _ _ _ _ _ _ _ _ _ _ _ _ _ _ _ _ _ _ _ _ _ _ ⟨_, N2.out⟩

set_option maxRecDepth 1000000 in
set_option maxHeartbeats 4000000 in
theorem ck_round6 (w8 wr : World) (nT i Bl Bla : Nat) (FL : Nat → Int) (Li : Int) (hnT : nT ≤ 1000) (hi : i < nT) (hBl : Bl < w8.heap.size) (hBla : Bla < w8.heap.size) (hl0 : w8.cell? ⟨Bl, i * 2, none⟩ = some (.int .i64 (FL (i * 2)))) (hl1 : w8.cell? ⟨Bl, i * 2 + 1, none⟩ = some (.int .i64 (FL (i * 2 + 1)))) (hla : w8.cell? ⟨Bla, i, none⟩ = some (.int .i64 Li)) (h1 : FL (i * 2) < Li) (N1 : Hid (Below w8.heap.size w8 wr))
    (Q : Exit → Act → World → Prop) (c0 c1 c2 c3 c4 c5 c6 c7 c9 c10 c11 c12 c13 c14 c15 c16 c17 c18 c20 c21 c22 c23 c24 c25 c26 c27 c28 c29 c30 c31 c32 c33 c34 c35 c36 c37 c38 c39 c40 c41 c42 c43 c44 c45 c46 c47 c48 c49 c50 c51 c52 c53 c54 c55 c56 c57 c58 c59 c60 c61 c62 c63 c64 c65 c66 c67 c68 c69 c70 c71 c72 c73 c74 c75 c76 c77 c78 c79 c80 c81 c82 c83 c84 c85 c86 c87 c88 c89 c90 c91 c92 c93 c94 c95 c96 c97 c98 c99 c100 c101 c102 c103 c104 c105 c106 c107 c108 c109 c110 c111 c112 c113 c114 c115 c116 c117 c118 c119 c120 c121 c122 c123 c124 c125 c126 c127 c128 c129 c130 c131 c132 c133 c134 c135 c136 c137 c138 c139 c140 c141 c142 c143 c144 c145 c146 c147 c148 c149 c150 c151 c152 c153 c154 c155 c156 c157 c158 c159 c160 c161 c162 c163 c164 c165 c166 c167 c168 c169 c170 c171 c172 c173 c174 c175 c176 c177 c178 c179 c180 c181 c182 c183 c184 c185 c186 c187 c188 c189 c190 c191 c192 c193 c194 c195 c196 c197 c198 c199 c200 c201 c202 c203 c204 c205 c206 c207 c208 c209 c210 c211 c212 c213 c214 c215 c216 c217 c218 c219 c220 c221 c222 c223 c224 c225 c226 c227 c228 c229 c230 c231 c232 c233 c234 c235 c236 c237 c238 c239 c242 c243 c244 c245 c246 c247 c248 c249 c250 c251 c252 c253 c254 c255 c256 c257 c258 c259 c260 c261 c262 c263 c264 c265 c266 c267 c268 c269 c270 c271 c272 c273 c274 c275 c276 c277 c278 c279 c280 c281 c282 c283 c284 c285 c286 c287 c288 c289 c290 c291 c292 c293 c294 c295 c296 c297 c298 c299 c300 c301 c302 c303 : Value)
    (hq : ∀ (u28 u29 u30 u31 u32 u242 u243 u244 u245 u246 u247 u248 u249 u250 u251 u252 u253 u254 u255 u256 u257 u258 u259 u260 u261 u262 u263 u264 u265 u266 u267 u268 u269 u270 u271 u272 u273 u274 u275 u276 u277 u278 u279 u280 u281 u282 u283 u284 u285 u286 u287 u288 u289 u290 u291 u292 u293 u294 u295 u296 : Value) (wi : World), Below w8.heap.size w8 wi → Q .normal ⟨#[c0, c1, c2, c3, c4, c5, c6, c7, .slice (some ⟨Bl, 0, none⟩) nT nT, c9, c10, c11, c12, c13, c14, c15, c16, c17, c18, .slice (some ⟨Bla, 0, none⟩) nT nT, c20, c21, c22, c23, c24, c25, c26, c27, u28, u29, u30, u31, u32, c33, c34, c35, c36, c37, c38, c39, c40, c41, c42, c43, c44, c45, c46, c47, c48, c49, c50, c51, c52, c53, c54, c55, c56, c57, c58, c59, c60, c61, c62, c63, c64, c65, c66, c67, c68, c69, c70, c71, c72, c73, c74, c75, c76, c77, c78, c79, c80, c81, c82, c83, c84, c85, c86, c87, c88, c89, c90, c91, c92, c93, c94, c95, c96, c97, c98, c99, c100, c101, c102, c103, c104, c105, c106, c107, c108, c109, c110, c111, c112, c113, c114, c115, c116, c117, c118, c119, c120, c121, c122, c123, c124, c125, c126, c127, c128, c129, c130, c131, c132, c133, c134, c135, c136, c137, c138, c139, c140, c141, c142, c143, c144, c145, c146, c147, c148, c149, c150, c151, c152, c153, c154, c155, c156, c157, c158, c159, c160, c161, c162, c163, c164, c165, c166, c167, c168, c169, c170, c171, c172, c173, c174, c175, c176, c177, c178, c179, c180, c181, c182, c183, c184, c185, c186, c187, c188, c189, c190, c191, c192, c193, c194, c195, c196, c197, c198, c199, c200, c201, c202, c203, c204, c205, c206, c207, c208, c209, c210, c211, c212, c213, c214, c215, c216, c217, c218, c219, c220, c221, c222, c223, c224, c225, c226, c227, c228, c229, c230, c231, c232, c233, c234, c235, c236, c237, c238, c239, .int .i64 (nT : Int), .int .i64 ((i + 1 : Nat) : Int), u242, u243, u244, u245, u246, u247, u248, u249, u250, u251, u252, u253, u254, u255, u256, u257, u258, u259, u260, u261, u262, u263, u264, u265, u266, u267, u268, u269, u270, u271, u272, u273, u274, u275, u276, u277, u278, u279, u280, u281, u282, u283, u284, u285, u286, u287, u288, u289, u290, u291, u292, u293, u294, u295, u296, c297, c298, c299, c300, c301, c302, c303], []⟩ wi) :
    Code.wp Ybad.prog (lp7 5) Q ⟨#[c0, c1, c2, c3, c4, c5, c6, c7, .slice (some ⟨Bl, 0, none⟩) nT nT, c9, c10, c11, c12, c13, c14, c15, c16, c17, c18, .slice (some ⟨Bla, 0, none⟩) nT nT, c20, c21, c22, c23, c24, c25, c26, c27, c28, c29, c30, c31, c32, c33, c34, c35, c36, c37, c38, c39, c40, c41, c42, c43, c44, c45, c46, c47, c48, c49, c50, c51, c52, c53, c54, c55, c56, c57, c58, c59, c60, c61, c62, c63, c64, c65, c66, c67, c68, c69, c70, c71, c72, c73, c74, c75, c76, c77, c78, c79, c80, c81, c82, c83, c84, c85, c86, c87, c88, c89, c90, c91, c92, c93, c94, c95, c96, c97, c98, c99, c100, c101, c102, c103, c104, c105, c106, c107, c108, c109, c110, c111, c112, c113, c114, c115, c116, c117, c118, c119, c120, c121, c122, c123, c124, c125, c126, c127, c128, c129, c130, c131, c132, c133, c134, c135, c136, c137, c138, c139, c140, c141, c142, c143, c144, c145, c146, c147, c148, c149, c150, c151, c152, c153, c154, c155, c156, c157, c158, c159, c160, c161, c162, c163, c164, c165, c166, c167, c168, c169, c170, c171, c172, c173, c174, c175, c176, c177, c178, c179, c180, c181, c182, c183, c184, c185, c186, c187, c188, c189, c190, c191, c192, c193, c194, c195, c196, c197, c198, c199, c200, c201, c202, c203, c204, c205, c206, c207, c208, c209, c210, c211, c212, c213, c214, c215, c216, c217, c218, c219, c220, c221, c222, c223, c224, c225, c226, c227, c228, c229, c230, c231, c232, c233, c234, c235, c236, c237, c238, c239, .int .i64 (nT : Int), .int .i64 (i : Int), c242, c243, c244, c245, c246, c247, c248, c249, c250, c251, c252, c253, c254, c255, c256, c257, c258, c259, c260, c261, c262, c263, c264, c265, c266, c267, c268, c269, c270, c271, c272, c273, c274, c275, c276, c277, c278, c279, c280, c281, c282, c283, c284, c285, c286, c287, c288, c289, c290, c291, c292, c293, c294, c295, c296, c297, c298, c299, c300, c301, c302, c303], []⟩ wr := by
  refine Code.wp_mono NoPanic.imp ?_
  have HQ := hid hq
  clear hq
  conv => arg 2; whnf
  have hii : (i : Int) < (nT : Int) := by omega
  have hi0 : (0 : Int) ≤ (i : Int) := by omega
  obtain ⟨b0, hb0⟩ : ∃ b0, FL (i * 2) = b0 := ⟨_, rfl⟩
  obtain ⟨b1, hb1⟩ : ∃ b1, FL (i * 2 + 1) = b1 := ⟨_, rfl⟩
  rw [hb0] at hl0 h1
  rw [hb1] at hl1
  clear hb0 hb1
  have hz := N1.out.size
  have c0 := (N1.out.cell (p := ⟨Bl, i * 2, none⟩) hBl).trans hl0
  have c1 := (N1.out.cell (p := ⟨Bl, i * 2 + 1, none⟩) hBl).trans hl1
  have N2 := hid (N1.out.alloc hz (.cells #[.int .i64 b0, .int .i64 b1] 65))
  have c2 := (N2.out.cell (p := ⟨Bla, i, none⟩) hBla).trans hla
  have c3 : (wr.alloc (.cells #[.int .i64 b0, .int .i64 b1] 65)).cell? ⟨wr.heap.size, 0, none⟩ = some (.int .i64 b0) := by rw [cell_of_row _ _ _ _ _ _ (heap_alloc_new wr _)]; rfl
  have hn : ¬ Li ≤ b0 := by omega
  clear hl0 hl1 hla
  go_upto_region 51 with fail
  obtain ⟨wa, hwa⟩ : ∃ wa, wa = wr.alloc (.cells #[.int .i64 b0, .int .i64 b1] 65) := ⟨_, rfl⟩
  rw [← hwa] at N2 c2 c3 ⊢
  clear hwa c0 c1
  go_quiet (fail)
  go_wp2_with fail
  have HH := HQ.out
  rw [show ((i + 1 : Nat) : Int) = (i : Int) + 1 from by omega] at HH
  exact HH _ _ _ _ _ _ _ _ _ _ _ _ _ _ _ _ _ _ _ _ _ _ _ _ _ _ _ _ _ _ _ _ _ _ _ _ _ _ _ _ _ _ _ _ _ _ _ _ _ _ _ _ _ _ _ _ _ _ _ _ _ (below_drewN N2.out _)

end Go.Proofs.YbulkbgasDoor
