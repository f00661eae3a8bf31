import Derived.Test.YbulkbgasDoorLg4
import Derived.Test.YbulkbgasDoorLk7
namespace Go.Proofs.YbulkbgasDoor
open Go.RowKit Go.Maps
set_option linter.unusedVariables false
attribute [local go_sem ↓] Go.wp_at_zero Go.wp_at_succ

theorem LkL.app2 {w4 wr wz wE : World} {vL : Value} {R : List Ac} (h : LkL w4 wr vL R) (e : wz.heap = wr.heap) (e1 : wz.os = wr.os) (e2 : wz.tape = wr.tape) (e3 : wz.output = wr.output) {g cap : Nat} {a : Ac} (ho : wE.ownsRow w4.heap.size 34 3 (.slice (some ⟨g, 0, none⟩) (R.length + 1) cap) (R.length + 1) (rowA R ++ a.cells)) (hg : wz.grownBy wE vL.ownBlock) : LkL w4 wE (.slice (some ⟨g, 0, none⟩) (R.length + 1) cap) (R ++ [a]) :=
  (h.same e e1 e2 e3).app ho hg

set_option maxRecDepth 1000000 in
set_option maxHeartbeats 4000000 in
theorem lg_round7 (w4 wr : World) (Bc nT n q at_ i capg captx capl : Nat) (ag as_ : Option Addr) (btx otx : Nat) (g : List Sp) (s : Sp) (l : List Ac) (tx : List Int) (vL : Value) (R : List Ac) (hn : l.length = n) (hn2 : n ≤ 10000) (hgl : g.length ≤ 300) (hq0 : q < g.length) (HG : Hid (Els w4 5 ag g.length fun i => (g.getD i sp0).cells)) (hs : g.getD q sp0 = s) (hf : s.f < n) (hRl : R.length ≤ 20000) (hBc : Bc < w4.heap.size) (hbtx : btx < w4.heap.size) (hi : i < nT) (hx1 : w4.cell? ⟨Bc, 0, none⟩ = some (.slice (some ⟨btx, otx, none⟩) nT captx)) (hx2 : w4.cell? ⟨btx, otx + i, none⟩ = some (.int .i64 (tx.getD i 0))) (hx3' : ∃ bs os, as_ = some ⟨bs, os, none⟩ ∧ bs < w4.heap.size ∧ w4.cell? ⟨bs, os + s.f * 3, none⟩ = some (.string (l.getD s.f ac0).k) ∧ w4.cell? ⟨bs, os + s.f * 3 + 1, none⟩ = some (.int .i64 (l.getD s.f ac0).t) ∧ w4.cell? ⟨bs, os + s.f * 3 + 2, none⟩ = some (.string (l.getD s.f ac0).it)) (N1 : Hid (LkL w4 wr vL R))
    (Q : Exit → Act → World → Prop) (c2 c3 c4 c5 c6 c7 c8 c9 c10 c11 c12 c13 c14 c15 c16 c17 c18 c19 c20 c21 c24 c26 c27 c28 c29 c30 c31 c32 c33 c34 c35 c36 c37 c38 c39 c40 c41 c42 c43 c44 c45 c46 c47 c48 c49 c50 c51 c52 c53 c54 c55 c56 c57 c58 c59 c60 c61 c62 c63 c64 c65 c66 c67 c68 c69 c70 c71 c72 c73 c74 c75 c76 c77 c78 c79 c80 c81 c82 c83 c84 c85 c86 c87 c88 c89 c90 c91 c92 c93 c94 c95 c96 c97 c98 c99 c100 c101 c102 c103 c104 c105 c106 c107 c108 c109 c110 c111 c112 c113 c114 c115 c116 c117 c118 c119 c120 c121 c122 c123 c124 c125 c126 c127 c128 c129 c130 c131 c132 c133 c134 c135 c136 c137 c138 c139 c140 c141 c142 c143 c144 c145 c146 c147 c148 c149 c150 c151 c152 c153 c154 c155 c156 c157 c158 c159 c160 c161 c162 c163 c164 c165 c166 c167 c168 c169 c170 c171 c172 c173 c174 c175 c176 c177 c178 c179 c180 c181 c182 c183 c184 c185 c186 c187 c188 c189 c190 c191 c192 c193 c194 c195 c196 c197 c198 c199 c200 c201 c202 c203 c204 c205 c206 c207 c208 c209 c210 c211 c212 c213 c214 c215 c216 c217 c218 c219 c220 c221 c222 c223 c224 c225 c226 c227 c228 c229 c230 c231 c232 c233 c234 c235 c236 c237 c238 c239 c240 c241 c242 c243 c244 c245 c246 c250 c251 c252 c253 c254 c255 c256 c257 c258 c259 c260 c261 c262 c263 c264 c265 c266 c267 c268 c269 c270 c271 c272 c273 c274 c275 c276 c277 c278 c279 c280 c281 c282 c283 c284 c285 c286 c287 c288 c289 c290 c291 c292 c293 c294 c295 c296 c297 c298 c299 c300 c301 c302 c303 c304 c305 c306 c307 c308 c309 c310 : Value)
    (hq : ∀ (u29 u250 u251 u252 u253 u254 u255 u256 u257 u258 u259 u260 u261 u262 u263 u264 u265 u266 u267 u268 u269 u270 u271 u272 u273 u274 : Value) (vL2 : Value) (wi : World), LkL w4 wi vL2 (R ++ guOne l tx i at_ s) → Q .normal ⟨#[.pointer (some ⟨Bc, 0, none⟩), .slice as_ n capl, c2, c3, c4, c5, c6, c7, c8, c9, c10, c11, c12, c13, c14, c15, c16, c17, c18, c19, c20, c21, vL2, .int .i64 (at_ : Int), c24, .int .i64 (i : Int), c26, c27, c28, u29, c30, c31, c32, c33, c34, c35, c36, c37, c38, c39, c40, c41, c42, c43, c44, c45, c46, c47, c48, c49, c50, c51, c52, c53, c54, c55, c56, c57, c58, c59, c60, c61, c62, c63, c64, c65, c66, c67, c68, c69, c70, c71, c72, c73, c74, c75, c76, c77, c78, c79, c80, c81, c82, c83, c84, c85, c86, c87, c88, c89, c90, c91, c92, c93, c94, c95, c96, c97, c98, c99, c100, c101, c102, c103, c104, c105, c106, c107, c108, c109, c110, c111, c112, c113, c114, c115, c116, c117, c118, c119, c120, c121, c122, c123, c124, c125, c126, c127, c128, c129, c130, c131, c132, c133, c134, c135, c136, c137, c138, c139, c140, c141, c142, c143, c144, c145, c146, c147, c148, c149, c150, c151, c152, c153, c154, c155, c156, c157, c158, c159, c160, c161, c162, c163, c164, c165, c166, c167, c168, c169, c170, c171, c172, c173, c174, c175, c176, c177, c178, c179, c180, c181, c182, c183, c184, c185, c186, c187, c188, c189, c190, c191, c192, c193, c194, c195, c196, c197, c198, c199, c200, c201, c202, c203, c204, c205, c206, c207, c208, c209, c210, c211, c212, c213, c214, c215, c216, c217, c218, c219, c220, c221, c222, c223, c224, c225, c226, c227, c228, c229, c230, c231, c232, c233, c234, c235, c236, c237, c238, c239, c240, c241, c242, c243, c244, c245, c246, .slice ag g.length capg, .int .i64 (g.length : Int), .int .i64 ((q + 1 : Nat) : Int), u250, u251, u252, u253, u254, u255, u256, u257, u258, u259, u260, u261, u262, u263, u264, u265, u266, u267, u268, u269, u270, u271, u272, u273, u274, c275, c276, c277, c278, c279, c280, c281, c282, c283, c284, c285, c286, c287, c288, c289, c290, c291, c292, c293, c294, c295, c296, c297, c298, c299, c300, c301, c302, c303, c304, c305, c306, c307, c308, c309, c310], []⟩ wi) :
    Code.wp Ybad.prog (lp32 6) Q ⟨#[.pointer (some ⟨Bc, 0, none⟩), .slice as_ n capl, c2, c3, c4, c5, c6, c7, c8, c9, c10, c11, c12, c13, c14, c15, c16, c17, c18, c19, c20, c21, vL, .int .i64 (at_ : Int), c24, .int .i64 (i : Int), c26, c27, c28, c29, c30, c31, c32, c33, c34, c35, c36, c37, c38, c39, c40, c41, c42, c43, c44, c45, c46, c47, c48, c49, c50, c51, c52, c53, c54, c55, c56, c57, c58, c59, c60, c61, c62, c63, c64, c65, c66, c67, c68, c69, c70, c71, c72, c73, c74, c75, c76, c77, c78, c79, c80, c81, c82, c83, c84, c85, c86, c87, c88, c89, c90, c91, c92, c93, c94, c95, c96, c97, c98, c99, c100, c101, c102, c103, c104, c105, c106, c107, c108, c109, c110, c111, c112, c113, c114, c115, c116, c117, c118, c119, c120, c121, c122, c123, c124, c125, c126, c127, c128, c129, c130, c131, c132, c133, c134, c135, c136, c137, c138, c139, c140, c141, c142, c143, c144, c145, c146, c147, c148, c149, c150, c151, c152, c153, c154, c155, c156, c157, c158, c159, c160, c161, c162, c163, c164, c165, c166, c167, c168, c169, c170, c171, c172, c173, c174, c175, c176, c177, c178, c179, c180, c181, c182, c183, c184, c185, c186, c187, c188, c189, c190, c191, c192, c193, c194, c195, c196, c197, c198, c199, c200, c201, c202, c203, c204, c205, c206, c207, c208, c209, c210, c211, c212, c213, c214, c215, c216, c217, c218, c219, c220, c221, c222, c223, c224, c225, c226, c227, c228, c229, c230, c231, c232, c233, c234, c235, c236, c237, c238, c239, c240, c241, c242, c243, c244, c245, c246, .slice ag g.length capg, .int .i64 (g.length : Int), .int .i64 (q : Int), c250, c251, c252, c253, c254, c255, c256, c257, c258, c259, c260, c261, c262, c263, c264, c265, c266, c267, c268, c269, c270, c271, c272, c273, c274, c275, c276, c277, c278, c279, c280, c281, c282, c283, c284, c285, c286, c287, c288, c289, c290, c291, c292, c293, c294, c295, c296, c297, c298, c299, c300, c301, c302, c303, c304, c305, c306, c307, c308, c309, c310], []⟩ wr := by
  by_cases hla : s.la < at_
  · refine lk_round7 w4 wr Bc nT n q at_ i capg captx capl ag as_ btx otx g s l tx vL R hn hn2 hgl hq0 HG hs hla hf hRl hBc hbtx hi hx1 hx2 hx3' N1 _ _ _ _ _ _ _ _ _ _ _ _ _ _ _ _ _ _ _ _ _ _ _ _ _ _ _ _ _ _ _ _ _ _ _ _ _ _ _ _ _ _ _ _ _ _ _ _ _ _ _ _ _ _ _ _ _ _ _ _ _ _ _ _ _ _ _ _ _ _ _ _ _ _ _ _ _ _ _ _ _ _ _ _ _ _ _ _ _ _ _ _ _ _ _ _ _ _ _ _ _ _ _ _ _ _ _ _ _ _ _ _ _ _ _ _ _ _ _ _ _ _ _ _ _ _ _ _ _ _ _ _ _ _ _ _ _ _ _ _ _ _ _ _ _ _ _ _ _ _ _ _ _ _ _ _ _ _ _ _ _ _ _ _ _ _ _ _ _ _ _ _ _ _ _ _ _ _ _ _ _ _ _ _ _ _ _ _ _ _ _ _ _ _ _ _ _ _ _ _ _ _ _ _ _ _ _ _ _ _ _ _ _ _ _ _ _ _ _ _ _ _ _ _ _ _ _ _ _ _ _ _ _ _ _ _ _ _ _ _ _ _ _ _ _ _ _ _ _ _ _ _ _ _ _ _ _ _ _ _ _ _ _ _ _ _ _ _ _ _ _ _ _ _ _ _ _ _ _ _ _ _ _ _ _ _ _ _ _ _ _ _ _ _ _ _ _ _ _ _ _ _ _ _ ?_
    intro u29 u250 u251 u252 u253 u254 u255 u256 u257 u258 u259 u260 u261 u262 u263 u264 u265 u266 u267 u268 u269 u270 u271 u272 u273 u274 vL2 wi h
    exact hq _ _ _ _ _ _ _ _ _ _ _ _ _ _ _ _ _ _ _ _ _ _ _ _ _ _ vL2 wi (by unfold guOne; rw [if_pos hla]; exact h)
  · refine Code.wp_mono NoPanic.imp ?_
    have HQ := hid hq
    clear hq
    conv => arg 2; whnf
    have hqi : (q : Int) < (g.length : Int) := by omega
    obtain ⟨b, off, rfl, hbl, c0', c1', c2', c3', c4'⟩ := sp_at5 HG.out hq0
    rw [hs] at c0' c1' c2' c3' c4'
    have c0 : wr.cell? ⟨b, off + q * 5, none⟩ = some (.int .i64 (s.x : Int)) := (N1.out.bel.cell (p := ⟨b, off + q * 5, none⟩) hbl).trans c0'
    have c1 : wr.cell? ⟨b, off + q * 5 + 1, none⟩ = some (.int .i64 (s.i : Int)) := (N1.out.bel.cell (p := ⟨b, off + q * 5 + 1, none⟩) hbl).trans c1'
    have c2 : wr.cell? ⟨b, off + q * 5 + 2, none⟩ = some (.int .i64 (s.f : Int)) := (N1.out.bel.cell (p := ⟨b, off + q * 5 + 2, none⟩) hbl).trans c2'
    have c3 : wr.cell? ⟨b, off + q * 5 + 3, none⟩ = some (.int .i64 s.w) := (N1.out.bel.cell (p := ⟨b, off + q * 5 + 3, none⟩) hbl).trans c3'
    have c4 : wr.cell? ⟨b, off + q * 5 + 4, none⟩ = some (.int .i64 (s.la : Int)) := (N1.out.bel.cell (p := ⟨b, off + q * 5 + 4, none⟩) hbl).trans c4'
    clear c0' c1' c2' c3' c4'
    have hlai : ¬ (s.la : Int) < (at_ : Int) := by omega
    have N2 := hid (N1.out.alloc (.cells #[.int .i64 (s.x : Int), .int .i64 (s.i : Int), .int .i64 (s.f : Int), .int .i64 s.w, .int .i64 (s.la : Int)] 102))
    go_wp2_with fail
    have HH := HQ.out
    rw [show ((q + 1 : Nat) : Int) = (q : Int) + 1 from by omega] at HH
    refine HH _ _ _ _ _ _ _ _ _ _ _ _ _ _ _ _ _ _ _ _ _ _ _ _ _ _ _ _ ?_
    unfold guOne
    rw [if_neg hla, List.append_nil]
    exact N2.out

set_option maxRecDepth 1000000 in
set_option maxHeartbeats 4000000 in
theorem lg_round6 (w4 wr : World) (Bc nT n q at_ i capg captx capl : Nat) (ag as_ : Option Addr) (btx otx : Nat) (g : List Sp) (s : Sp) (l : List Ac) (tx : List Int) (vL : Value) (R : List Ac) (hn : l.length = n) (hn2 : n ≤ 10000) (hgl : g.length ≤ 300) (hq0 : q < g.length) (HG : Hid (Els w4 5 ag g.length fun i => (g.getD i sp0).cells)) (hs : g.getD q sp0 = s) (hf : s.f < n) (hRl : R.length ≤ 20000) (hBc : Bc < w4.heap.size) (hbtx : btx < w4.heap.size) (hi : i < nT) (hx1 : w4.cell? ⟨Bc, 0, none⟩ = some (.slice (some ⟨btx, otx, none⟩) nT captx)) (hx2 : w4.cell? ⟨btx, otx + i, none⟩ = some (.int .i64 (tx.getD i 0))) (hx3' : ∃ bs os, as_ = some ⟨bs, os, none⟩ ∧ bs < w4.heap.size ∧ w4.cell? ⟨bs, os + s.f * 3, none⟩ = some (.string (l.getD s.f ac0).k) ∧ w4.cell? ⟨bs, os + s.f * 3 + 1, none⟩ = some (.int .i64 (l.getD s.f ac0).t) ∧ w4.cell? ⟨bs, os + s.f * 3 + 2, none⟩ = some (.string (l.getD s.f ac0).it)) (hw0 : -1 ≤ s.w) (HLd : Hid (Laid w4)) (N1 : Hid (LkL w4 wr vL R))
    (Q : Exit → Act → World → Prop) (c2 c3 c4 c5 c6 c7 c8 c9 c10 c11 c12 c13 c14 c15 c16 c17 c18 c19 c20 c21 c24 c26 c27 c28 c29 c30 c31 c32 c33 c34 c35 c36 c37 c38 c39 c40 c41 c42 c43 c44 c45 c46 c47 c48 c49 c50 c51 c52 c53 c54 c55 c56 c57 c58 c59 c60 c61 c62 c63 c64 c65 c66 c67 c68 c69 c70 c71 c72 c73 c74 c75 c76 c77 c78 c79 c80 c81 c82 c83 c84 c85 c86 c87 c88 c89 c90 c91 c92 c93 c94 c95 c96 c97 c98 c99 c100 c101 c102 c103 c104 c105 c106 c107 c108 c109 c110 c111 c112 c113 c114 c115 c116 c117 c118 c119 c120 c121 c122 c123 c124 c125 c126 c127 c128 c129 c130 c131 c132 c133 c134 c135 c136 c137 c138 c139 c140 c141 c142 c143 c144 c145 c146 c147 c148 c149 c150 c151 c152 c153 c154 c155 c156 c157 c158 c159 c160 c161 c162 c163 c164 c165 c166 c167 c168 c169 c170 c171 c172 c173 c174 c175 c176 c177 c178 c179 c180 c181 c182 c183 c184 c185 c186 c190 c191 c192 c193 c194 c195 c196 c197 c198 c199 c200 c201 c202 c203 c204 c205 c206 c207 c208 c209 c210 c211 c212 c213 c214 c215 c216 c217 c218 c219 c220 c221 c222 c223 c224 c225 c226 c227 c228 c229 c230 c231 c232 c233 c234 c235 c236 c237 c238 c239 c240 c241 c242 c243 c244 c245 c246 c247 c248 c249 c250 c251 c252 c253 c254 c255 c256 c257 c258 c259 c260 c261 c262 c263 c264 c265 c266 c267 c268 c269 c270 c271 c272 c273 c274 c275 c276 c277 c278 c279 c280 c281 c282 c283 c284 c285 c286 c287 c288 c289 c290 c291 c292 c293 c294 c295 c296 c297 c298 c299 c300 c301 c302 c303 c304 c305 c306 c307 c308 c309 c310 : Value)
    (hq : ∀ (u27 u190 u191 u192 u193 u194 u195 u196 u197 u198 u199 u200 u201 u202 u203 u204 u205 u206 u207 u208 u209 u210 u211 u212 u213 u214 u215 u216 u217 u218 u219 u220 u221 u222 u223 u224 u225 u226 u227 u228 u229 u230 u231 u232 u233 u234 u235 u236 u237 u238 u239 u240 u241 u242 u243 : Value) (vL2 : Value) (wi : World), LkL w4 wi vL2 (R ++ glOne l tx i at_ s) → Q .normal ⟨#[.pointer (some ⟨Bc, 0, none⟩), .slice as_ n capl, c2, c3, c4, c5, c6, c7, c8, c9, c10, c11, c12, c13, c14, c15, c16, c17, c18, c19, c20, c21, vL2, .int .i64 (at_ : Int), c24, .int .i64 (i : Int), c26, u27, c28, c29, c30, c31, c32, c33, c34, c35, c36, c37, c38, c39, c40, c41, c42, c43, c44, c45, c46, c47, c48, c49, c50, c51, c52, c53, c54, c55, c56, c57, c58, c59, c60, c61, c62, c63, c64, c65, c66, c67, c68, c69, c70, c71, c72, c73, c74, c75, c76, c77, c78, c79, c80, c81, c82, c83, c84, c85, c86, c87, c88, c89, c90, c91, c92, c93, c94, c95, c96, c97, c98, c99, c100, c101, c102, c103, c104, c105, c106, c107, c108, c109, c110, c111, c112, c113, c114, c115, c116, c117, c118, c119, c120, c121, c122, c123, c124, c125, c126, c127, c128, c129, c130, c131, c132, c133, c134, c135, c136, c137, c138, c139, c140, c141, c142, c143, c144, c145, c146, c147, c148, c149, c150, c151, c152, c153, c154, c155, c156, c157, c158, c159, c160, c161, c162, c163, c164, c165, c166, c167, c168, c169, c170, c171, c172, c173, c174, c175, c176, c177, c178, c179, c180, c181, c182, c183, c184, c185, c186, .slice ag g.length capg, .int .i64 (g.length : Int), .int .i64 ((q + 1 : Nat) : Int), u190, u191, u192, u193, u194, u195, u196, u197, u198, u199, u200, u201, u202, u203, u204, u205, u206, u207, u208, u209, u210, u211, u212, u213, u214, u215, u216, u217, u218, u219, u220, u221, u222, u223, u224, u225, u226, u227, u228, u229, u230, u231, u232, u233, u234, u235, u236, u237, u238, u239, u240, u241, u242, u243, c244, c245, c246, c247, c248, c249, c250, c251, c252, c253, c254, c255, c256, c257, c258, c259, c260, c261, c262, c263, c264, c265, c266, c267, c268, c269, c270, c271, c272, c273, c274, c275, c276, c277, c278, c279, c280, c281, c282, c283, c284, c285, c286, c287, c288, c289, c290, c291, c292, c293, c294, c295, c296, c297, c298, c299, c300, c301, c302, c303, c304, c305, c306, c307, c308, c309, c310], []⟩ wi) :
    Code.wp Ybad.prog (lp32 5) Q ⟨#[.pointer (some ⟨Bc, 0, none⟩), .slice as_ n capl, c2, c3, c4, c5, c6, c7, c8, c9, c10, c11, c12, c13, c14, c15, c16, c17, c18, c19, c20, c21, vL, .int .i64 (at_ : Int), c24, .int .i64 (i : Int), c26, c27, c28, c29, c30, c31, c32, c33, c34, c35, c36, c37, c38, c39, c40, c41, c42, c43, c44, c45, c46, c47, c48, c49, c50, c51, c52, c53, c54, c55, c56, c57, c58, c59, c60, c61, c62, c63, c64, c65, c66, c67, c68, c69, c70, c71, c72, c73, c74, c75, c76, c77, c78, c79, c80, c81, c82, c83, c84, c85, c86, c87, c88, c89, c90, c91, c92, c93, c94, c95, c96, c97, c98, c99, c100, c101, c102, c103, c104, c105, c106, c107, c108, c109, c110, c111, c112, c113, c114, c115, c116, c117, c118, c119, c120, c121, c122, c123, c124, c125, c126, c127, c128, c129, c130, c131, c132, c133, c134, c135, c136, c137, c138, c139, c140, c141, c142, c143, c144, c145, c146, c147, c148, c149, c150, c151, c152, c153, c154, c155, c156, c157, c158, c159, c160, c161, c162, c163, c164, c165, c166, c167, c168, c169, c170, c171, c172, c173, c174, c175, c176, c177, c178, c179, c180, c181, c182, c183, c184, c185, c186, .slice ag g.length capg, .int .i64 (g.length : Int), .int .i64 (q : Int), c190, c191, c192, c193, c194, c195, c196, c197, c198, c199, c200, c201, c202, c203, c204, c205, c206, c207, c208, c209, c210, c211, c212, c213, c214, c215, c216, c217, c218, c219, c220, c221, c222, c223, c224, c225, c226, c227, c228, c229, c230, c231, c232, c233, c234, c235, c236, c237, c238, c239, c240, c241, c242, c243, c244, c245, c246, c247, c248, c249, c250, c251, c252, c253, c254, c255, c256, c257, c258, c259, c260, c261, c262, c263, c264, c265, c266, c267, c268, c269, c270, c271, c272, c273, c274, c275, c276, c277, c278, c279, c280, c281, c282, c283, c284, c285, c286, c287, c288, c289, c290, c291, c292, c293, c294, c295, c296, c297, c298, c299, c300, c301, c302, c303, c304, c305, c306, c307, c308, c309, c310], []⟩ wr := by
  by_cases hfa : at_ ≤ s.f
  · by_cases hw : 0 ≤ s.w
    · refine Code.wp_mono NoPanic.imp ?_
      have HQ := hid hq
      clear hq
      conv => arg 2; whnf
      have hqi : (q : Int) < (g.length : Int) := by omega
      obtain ⟨bs, os, rfl, hbs, _, _, hx3⟩ := hx3'
      obtain ⟨b, off, rfl, hbl, c0', c1', c2', c3', c4'⟩ := sp_at5 HG.out hq0
      rw [hs] at c0' c1' c2' c3' c4'
      have c0 : wr.cell? ⟨b, off + q * 5, none⟩ = some (.int .i64 (s.x : Int)) := (N1.out.bel.cell (p := ⟨b, off + q * 5, none⟩) hbl).trans c0'
      have c1 : wr.cell? ⟨b, off + q * 5 + 1, none⟩ = some (.int .i64 (s.i : Int)) := (N1.out.bel.cell (p := ⟨b, off + q * 5 + 1, none⟩) hbl).trans c1'
      have c2 : wr.cell? ⟨b, off + q * 5 + 2, none⟩ = some (.int .i64 (s.f : Int)) := (N1.out.bel.cell (p := ⟨b, off + q * 5 + 2, none⟩) hbl).trans c2'
      have c3 : wr.cell? ⟨b, off + q * 5 + 3, none⟩ = some (.int .i64 s.w) := (N1.out.bel.cell (p := ⟨b, off + q * 5 + 3, none⟩) hbl).trans c3'
      have c4 : wr.cell? ⟨b, off + q * 5 + 4, none⟩ = some (.int .i64 (s.la : Int)) := (N1.out.bel.cell (p := ⟨b, off + q * 5 + 4, none⟩) hbl).trans c4'
      clear c0' c1' c2' c3' c4'
      have hfx : (s.f : Int) ≥ (at_ : Int) := by omega
      have hbw : (s.w ≥ 0) = True := by simp [hw]
      have hbw2 : s.w ≥ 0 := hw
      have hz2 := N1.out.bel.size
      go_upto_region 38 with fail
      have N2 := hid (N1.out.alloc (.cells #[.int .i64 (s.x : Int), .int .i64 (s.i : Int), .int .i64 (s.f : Int), .int .i64 s.w, .int .i64 (s.la : Int)] 102))
      have HB := hid (show (wr.alloc (.cells #[.int .i64 (s.x : Int), .int .i64 (s.i : Int), .int .i64 (s.f : Int), .int .i64 s.w, .int .i64 (s.la : Int)] 102)).heap[wr.heap.size]? = some (.cells s.cells.toArray 102 (0, 0)) from heap_alloc_new wr _)
      obtain ⟨wa, hwa⟩ : ∃ wa, wa = wr.alloc (.cells #[.int .i64 (s.x : Int), .int .i64 (s.i : Int), .int .i64 (s.f : Int), .int .i64 s.w, .int .i64 (s.la : Int)] 102) := ⟨_, rfl⟩
      obtain ⟨B, hBB⟩ : ∃ B, B = wr.heap.size := ⟨_, rfl⟩
      rw [← hwa] at N2 HB ⊢
      rw [← hBB] at HB ⊢
      have hBlt : B < wa.heap.size := (Array.getElem?_eq_some_iff.1 HB.out).1
      have hBge : w4.heap.size ≤ B := by omega
      have HNB := hid (show vL.ownBlock ≠ some B from fun e => by have := (N1.out.own.lt _ e).2; omega)
      clear hwa hBB c0 c1 c2 c3 c4 N1 hz2
      have d2 : wa.cell? ⟨B, 2, none⟩ = some (.int .i64 (s.f : Int)) := by rw [cell_of_row _ _ _ _ _ _ HB.out]; rfl
      have d3 : wa.cell? ⟨B, 3, none⟩ = some (.int .i64 s.w) := by rw [cell_of_row _ _ _ _ _ _ HB.out]; rfl
      have y1 : wa.cell? ⟨Bc, 0, none⟩ = some (.slice (some ⟨btx, otx, none⟩) nT captx) := (N2.out.bel.cell (p := ⟨Bc, 0, none⟩) hBc).trans hx1
      have y2 : wa.cell? ⟨btx, otx + i, none⟩ = some (.int .i64 (tx.getD i 0)) := (N2.out.bel.cell (p := ⟨btx, otx + i, none⟩) hbtx).trans hx2
      have y3 : wa.cell? ⟨bs, os + s.f * 3 + 2, none⟩ = some (.string (l.getD s.f ac0).it) := (N2.out.bel.cell (p := ⟨bs, os + s.f * 3 + 2, none⟩) hbs).trans hx3
      obtain ⟨b0, o0, e0, b1, o1, e1, l1, l2, l3, l4, l5, l6, l7, l8, l9, l10⟩ := HLd.out
      have l1' : wa.cell? ⟨0, 0, none⟩ = some (.slice (some ⟨b0, o0, none⟩) 2 e0) := (N2.out.bel.cell (p := ⟨0, 0, none⟩) l3).trans l1
      have l2' : wa.cell? ⟨1, 0, none⟩ = some (.slice (some ⟨b1, o1, none⟩) 2 e1) := (N2.out.bel.cell (p := ⟨1, 0, none⟩) l4).trans l2
      have l7' : wa.cell? ⟨b0, o0 + 1, none⟩ = some (.string kRl) := (N2.out.bel.cell (p := ⟨b0, o0 + 1, none⟩) l5).trans l7
      have l8' : wa.cell? ⟨b0, o0 + 3 + 1, none⟩ = some (.string kWl) := (N2.out.bel.cell (p := ⟨b0, o0 + 3 + 1, none⟩) l5).trans l8
      have l9' : wa.cell? ⟨b1, o1, none⟩ = some (.string mSh) := (N2.out.bel.cell (p := ⟨b1, o1, none⟩) l6).trans l9
      have l10' : wa.cell? ⟨b1, o1 + 1, none⟩ = some (.string mEx) := (N2.out.bel.cell (p := ⟨b1, o1 + 1, none⟩) l6).trans l10
      have HLL := hid (And.intro l1 (And.intro l2 (And.intro l7 (And.intro l8 (And.intro l9 l10)))))
      clear l1 l2 l7 l8 l9 l10
      have hii : (i : Int) < (nT : Int) := by omega
      have hi0 : (0 : Int) ≤ (i : Int) := by omega
      have hfi : (s.f : Int) < (n : Int) := by omega
      have hf0 : (0 : Int) ≤ (s.f : Int) := by omega
      have hwz := N2.out.bel.size
      obtain ⟨it, hit⟩ : ∃ it, (l.getD s.f ac0).it = it := ⟨_, rfl⟩
      obtain ⟨ti, hti⟩ : ∃ ti, tx.getD i 0 = ti := ⟨_, rfl⟩
      have HIT := hid hit
      have HTI := hid hti
      rw [hit] at y3
      rw [hti] at y2
      rw [hit] at hx3
      rw [hti] at hx2
      have HX := hid (And.intro hx1 (And.intro hx2 hx3))
      clear hit hti hx1 hx2 hx3
      go_region_held3 (fun W => W.cell? ⟨0, 0, none⟩ = some (.slice (some ⟨b0, o0, none⟩) 2 e0) ∧ W.cell? ⟨1, 0, none⟩ = some (.slice (some ⟨b1, o1, none⟩) 2 e1) ∧ W.cell? ⟨b0, o0 + 1, none⟩ = some (.string kRl) ∧ W.cell? ⟨b0, o0 + 3 + 1, none⟩ = some (.string kWl) ∧ W.cell? ⟨b1, o1, none⟩ = some (.string mSh) ∧ W.cell? ⟨b1, o1 + 1, none⟩ = some (.string mEx) ∧ W.cell? ⟨B, 2, none⟩ = some (.int .i64 (s.f : Int)) ∧ W.cell? ⟨B, 3, none⟩ = some (.int .i64 s.w) ∧ W.cell? ⟨Bc, 0, none⟩ = some (.slice (some ⟨btx, otx, none⟩) nT captx) ∧ W.cell? ⟨btx, otx + i, none⟩ = some (.int .i64 ti) ∧ W.cell? ⟨bs, os + s.f * 3 + 2, none⟩ = some (.string it)) (go_keep) (first
        | (go_at_call 53; refine Calls.mono (lockFor_t _) ?_; rintro e w' ⟨rfl, rfl⟩)
        | (go_at_call 52; refine Calls.mono (lockAct_t _ (b0 := b0) (o0 := o0) (c0 := e0) (b1 := b1) (o1 := o1) (c1 := e1) ?_ ?_ ?_ ?_ ?_ ?_) ?_; (simp [*]); (simp [*]); (simp [*]); (simp [*]); (simp [*]); (simp [*]); rintro e w' ⟨rfl, qq, rfl⟩)
        | (refine apDG Ybad.E24 (by rfl) _ _ (by rfl) w4.heap.size vL R.length (rowA R) (Ac.cells ⟨kWl, ti, it⟩) wa.heap.size (wa.heap.size + 1) (by rfl) (by rfl) ((LkL.same (N2.out.alloc (.cells (Ac.cells ⟨kWl, ti, it⟩).toArray 34)) rfl rfl rfl rfl).own) (heap_alloc_new wa _) rfl (Ac.one _) (by omega) (by simp; omega) (by simp) ?_; intro g1 cap1 w1 hown1 hgrow hat hlt1; have H9 := hid (LkL.app2 (N2.out.alloc (.cells (Ac.cells ⟨kWl, ti, it⟩).toArray 34)) (by rfl) (by rfl) (by rfl) (by rfl) hown1 hgrow); have hB9 : w1.heap[B]? = some (.cells s.cells.toArray 102 (0, 0)) := (copy_kept (by exact (Below.heap_alloc wa (.cells (Ac.cells ⟨kWl, ti, it⟩).toArray 34) _ hBlt).trans HB.out) hgrow HNB.out); have k8 : w1.cell? ⟨B, 2, none⟩ = some (.int .i64 (s.f : Int)) := (by rw [cell_of_row _ _ _ _ _ _ hB9]; rfl); have k9 : w1.cell? ⟨B, 3, none⟩ = some (.int .i64 s.w) := (by rw [cell_of_row _ _ _ _ _ _ hB9]; rfl); have kk0 := (H9.out.bel.cell (p := ⟨0, 0, none⟩) l3).trans HLL.out.1; have kk1 := (H9.out.bel.cell (p := ⟨1, 0, none⟩) l4).trans HLL.out.2.1; have kk2 := (H9.out.bel.cell (p := ⟨b0, o0 + 1, none⟩) l5).trans HLL.out.2.2.1; have kk3 := (H9.out.bel.cell (p := ⟨b0, o0 + 3 + 1, none⟩) l5).trans HLL.out.2.2.2.1; have kk4 := (H9.out.bel.cell (p := ⟨b1, o1, none⟩) l6).trans HLL.out.2.2.2.2.1; have kk5 := (H9.out.bel.cell (p := ⟨b1, o1 + 1, none⟩) l6).trans HLL.out.2.2.2.2.2; have kk6 := (H9.out.bel.cell (p := ⟨Bc, 0, none⟩) hBc).trans HX.out.1; have kk7 := (H9.out.bel.cell (p := ⟨btx, otx + i, none⟩) hbtx).trans HX.out.2.1; have kk8 := (H9.out.bel.cell (p := ⟨bs, os + s.f * 3 + 2, none⟩) hbs).trans HX.out.2.2; clear hown1 hgrow hat hB9))
      all_goals go_wp2_with fail
      all_goals (
        have HH := HQ.out
        rw [show ((q + 1 : Nat) : Int) = (q : Int) + 1 from by omega] at HH
        refine HH _ _ _ _ _ _ _ _ _ _ _ _ _ _ _ _ _ _ _ _ _ _ _ _ _ _ _ _ _ _ _ _ _ _ _ _ _ _ _ _ _ _ _ _ _ _ _ _ _ _ _ _ _ _ _ _ _ ?_
        have e : glOne l tx i at_ s = [⟨kWl, ti, it⟩] := by unfold glOne; rw [HIT.out, HTI.out, if_pos (by omega), if_pos (by omega)]
        rw [e]
        exact H9.out)
    · refine Code.wp_mono NoPanic.imp ?_
      have HQ := hid hq
      clear hq
      conv => arg 2; whnf
      have hqi : (q : Int) < (g.length : Int) := by omega
      obtain ⟨bs, os, rfl, hbs, _, _, hx3⟩ := hx3'
      obtain ⟨b, off, rfl, hbl, c0', c1', c2', c3', c4'⟩ := sp_at5 HG.out hq0
      rw [hs] at c0' c1' c2' c3' c4'
      have c0 : wr.cell? ⟨b, off + q * 5, none⟩ = some (.int .i64 (s.x : Int)) := (N1.out.bel.cell (p := ⟨b, off + q * 5, none⟩) hbl).trans c0'
      have c1 : wr.cell? ⟨b, off + q * 5 + 1, none⟩ = some (.int .i64 (s.i : Int)) := (N1.out.bel.cell (p := ⟨b, off + q * 5 + 1, none⟩) hbl).trans c1'
      have c2 : wr.cell? ⟨b, off + q * 5 + 2, none⟩ = some (.int .i64 (s.f : Int)) := (N1.out.bel.cell (p := ⟨b, off + q * 5 + 2, none⟩) hbl).trans c2'
      have c3 : wr.cell? ⟨b, off + q * 5 + 3, none⟩ = some (.int .i64 s.w) := (N1.out.bel.cell (p := ⟨b, off + q * 5 + 3, none⟩) hbl).trans c3'
      have c4 : wr.cell? ⟨b, off + q * 5 + 4, none⟩ = some (.int .i64 (s.la : Int)) := (N1.out.bel.cell (p := ⟨b, off + q * 5 + 4, none⟩) hbl).trans c4'
      clear c0' c1' c2' c3' c4'
      have hfx : (s.f : Int) ≥ (at_ : Int) := by omega
      have hbw2 : ¬ s.w ≥ 0 := hw
      have hz2 := N1.out.bel.size
      go_upto_region 38 with fail
      have N2 := hid (N1.out.alloc (.cells #[.int .i64 (s.x : Int), .int .i64 (s.i : Int), .int .i64 (s.f : Int), .int .i64 s.w, .int .i64 (s.la : Int)] 102))
      have HB := hid (show (wr.alloc (.cells #[.int .i64 (s.x : Int), .int .i64 (s.i : Int), .int .i64 (s.f : Int), .int .i64 s.w, .int .i64 (s.la : Int)] 102)).heap[wr.heap.size]? = some (.cells s.cells.toArray 102 (0, 0)) from heap_alloc_new wr _)
      obtain ⟨wa, hwa⟩ : ∃ wa, wa = wr.alloc (.cells #[.int .i64 (s.x : Int), .int .i64 (s.i : Int), .int .i64 (s.f : Int), .int .i64 s.w, .int .i64 (s.la : Int)] 102) := ⟨_, rfl⟩
      obtain ⟨B, hBB⟩ : ∃ B, B = wr.heap.size := ⟨_, rfl⟩
      rw [← hwa] at N2 HB ⊢
      rw [← hBB] at HB ⊢
      have hBlt : B < wa.heap.size := (Array.getElem?_eq_some_iff.1 HB.out).1
      have hBge : w4.heap.size ≤ B := by omega
      have HNB := hid (show vL.ownBlock ≠ some B from fun e => by have := (N1.out.own.lt _ e).2; omega)
      clear hwa hBB c0 c1 c2 c3 c4 N1 hz2
      have d2 : wa.cell? ⟨B, 2, none⟩ = some (.int .i64 (s.f : Int)) := by rw [cell_of_row _ _ _ _ _ _ HB.out]; rfl
      have d3 : wa.cell? ⟨B, 3, none⟩ = some (.int .i64 s.w) := by rw [cell_of_row _ _ _ _ _ _ HB.out]; rfl
      have y1 : wa.cell? ⟨Bc, 0, none⟩ = some (.slice (some ⟨btx, otx, none⟩) nT captx) := (N2.out.bel.cell (p := ⟨Bc, 0, none⟩) hBc).trans hx1
      have y2 : wa.cell? ⟨btx, otx + i, none⟩ = some (.int .i64 (tx.getD i 0)) := (N2.out.bel.cell (p := ⟨btx, otx + i, none⟩) hbtx).trans hx2
      have y3 : wa.cell? ⟨bs, os + s.f * 3 + 2, none⟩ = some (.string (l.getD s.f ac0).it) := (N2.out.bel.cell (p := ⟨bs, os + s.f * 3 + 2, none⟩) hbs).trans hx3
      obtain ⟨b0, o0, e0, b1, o1, e1, l1, l2, l3, l4, l5, l6, l7, l8, l9, l10⟩ := HLd.out
      have l1' : wa.cell? ⟨0, 0, none⟩ = some (.slice (some ⟨b0, o0, none⟩) 2 e0) := (N2.out.bel.cell (p := ⟨0, 0, none⟩) l3).trans l1
      have l2' : wa.cell? ⟨1, 0, none⟩ = some (.slice (some ⟨b1, o1, none⟩) 2 e1) := (N2.out.bel.cell (p := ⟨1, 0, none⟩) l4).trans l2
      have l7' : wa.cell? ⟨b0, o0 + 1, none⟩ = some (.string kRl) := (N2.out.bel.cell (p := ⟨b0, o0 + 1, none⟩) l5).trans l7
      have l8' : wa.cell? ⟨b0, o0 + 3 + 1, none⟩ = some (.string kWl) := (N2.out.bel.cell (p := ⟨b0, o0 + 3 + 1, none⟩) l5).trans l8
      have l9' : wa.cell? ⟨b1, o1, none⟩ = some (.string mSh) := (N2.out.bel.cell (p := ⟨b1, o1, none⟩) l6).trans l9
      have l10' : wa.cell? ⟨b1, o1 + 1, none⟩ = some (.string mEx) := (N2.out.bel.cell (p := ⟨b1, o1 + 1, none⟩) l6).trans l10
      have HLL := hid (And.intro l1 (And.intro l2 (And.intro l7 (And.intro l8 (And.intro l9 l10)))))
      clear l1 l2 l7 l8 l9 l10
      have hii : (i : Int) < (nT : Int) := by omega
      have hi0 : (0 : Int) ≤ (i : Int) := by omega
      have hfi : (s.f : Int) < (n : Int) := by omega
      have hf0 : (0 : Int) ≤ (s.f : Int) := by omega
      have hwz := N2.out.bel.size
      obtain ⟨it, hit⟩ : ∃ it, (l.getD s.f ac0).it = it := ⟨_, rfl⟩
      obtain ⟨ti, hti⟩ : ∃ ti, tx.getD i 0 = ti := ⟨_, rfl⟩
      have HIT := hid hit
      have HTI := hid hti
      rw [hit] at y3
      rw [hti] at y2
      rw [hit] at hx3
      rw [hti] at hx2
      have HX := hid (And.intro hx1 (And.intro hx2 hx3))
      clear hit hti hx1 hx2 hx3
      go_region_held3 (fun W => W.cell? ⟨0, 0, none⟩ = some (.slice (some ⟨b0, o0, none⟩) 2 e0) ∧ W.cell? ⟨1, 0, none⟩ = some (.slice (some ⟨b1, o1, none⟩) 2 e1) ∧ W.cell? ⟨b0, o0 + 1, none⟩ = some (.string kRl) ∧ W.cell? ⟨b0, o0 + 3 + 1, none⟩ = some (.string kWl) ∧ W.cell? ⟨b1, o1, none⟩ = some (.string mSh) ∧ W.cell? ⟨b1, o1 + 1, none⟩ = some (.string mEx) ∧ W.cell? ⟨B, 2, none⟩ = some (.int .i64 (s.f : Int)) ∧ W.cell? ⟨B, 3, none⟩ = some (.int .i64 s.w) ∧ W.cell? ⟨Bc, 0, none⟩ = some (.slice (some ⟨btx, otx, none⟩) nT captx) ∧ W.cell? ⟨btx, otx + i, none⟩ = some (.int .i64 ti) ∧ W.cell? ⟨bs, os + s.f * 3 + 2, none⟩ = some (.string it)) (go_keep) (first
        | (go_at_call 53; refine Calls.mono (lockFor_f _) ?_; rintro e w' ⟨rfl, rfl⟩)
        | (go_at_call 52; refine Calls.mono (lockAct_f _ (b0 := b0) (o0 := o0) (c0 := e0) (b1 := b1) (o1 := o1) (c1 := e1) ?_ ?_ ?_ ?_ ?_ ?_) ?_; (simp [*]); (simp [*]); (simp [*]); (simp [*]); (simp [*]); (simp [*]); rintro e w' ⟨rfl, qq, rfl⟩)
        | (refine apDG Ybad.E24 (by rfl) _ _ (by rfl) w4.heap.size vL R.length (rowA R) (Ac.cells ⟨kRl, ti, it⟩) wa.heap.size (wa.heap.size + 1) (by rfl) (by rfl) ((LkL.same (N2.out.alloc (.cells (Ac.cells ⟨kRl, ti, it⟩).toArray 34)) rfl rfl rfl rfl).own) (heap_alloc_new wa _) rfl (Ac.one _) (by omega) (by simp; omega) (by simp) ?_; intro g1 cap1 w1 hown1 hgrow hat hlt1; have H9 := hid (LkL.app2 (N2.out.alloc (.cells (Ac.cells ⟨kRl, ti, it⟩).toArray 34)) (by rfl) (by rfl) (by rfl) (by rfl) hown1 hgrow); have hB9 : w1.heap[B]? = some (.cells s.cells.toArray 102 (0, 0)) := (copy_kept (by exact (Below.heap_alloc wa (.cells (Ac.cells ⟨kRl, ti, it⟩).toArray 34) _ hBlt).trans HB.out) hgrow HNB.out); have k8 : w1.cell? ⟨B, 2, none⟩ = some (.int .i64 (s.f : Int)) := (by rw [cell_of_row _ _ _ _ _ _ hB9]; rfl); have k9 : w1.cell? ⟨B, 3, none⟩ = some (.int .i64 s.w) := (by rw [cell_of_row _ _ _ _ _ _ hB9]; rfl); have kk0 := (H9.out.bel.cell (p := ⟨0, 0, none⟩) l3).trans HLL.out.1; have kk1 := (H9.out.bel.cell (p := ⟨1, 0, none⟩) l4).trans HLL.out.2.1; have kk2 := (H9.out.bel.cell (p := ⟨b0, o0 + 1, none⟩) l5).trans HLL.out.2.2.1; have kk3 := (H9.out.bel.cell (p := ⟨b0, o0 + 3 + 1, none⟩) l5).trans HLL.out.2.2.2.1; have kk4 := (H9.out.bel.cell (p := ⟨b1, o1, none⟩) l6).trans HLL.out.2.2.2.2.1; have kk5 := (H9.out.bel.cell (p := ⟨b1, o1 + 1, none⟩) l6).trans HLL.out.2.2.2.2.2; have kk6 := (H9.out.bel.cell (p := ⟨Bc, 0, none⟩) hBc).trans HX.out.1; have kk7 := (H9.out.bel.cell (p := ⟨btx, otx + i, none⟩) hbtx).trans HX.out.2.1; have kk8 := (H9.out.bel.cell (p := ⟨bs, os + s.f * 3 + 2, none⟩) hbs).trans HX.out.2.2; clear hown1 hgrow hat hB9))
      all_goals go_wp2_with fail
      all_goals (
        have HH := HQ.out
        rw [show ((q + 1 : Nat) : Int) = (q : Int) + 1 from by omega] at HH
        refine HH _ _ _ _ _ _ _ _ _ _ _ _ _ _ _ _ _ _ _ _ _ _ _ _ _ _ _ _ _ _ _ _ _ _ _ _ _ _ _ _ _ _ _ _ _ _ _ _ _ _ _ _ _ _ _ _ _ ?_
        have e : glOne l tx i at_ s = [⟨kRl, ti, it⟩] := by unfold glOne; rw [HIT.out, HTI.out, if_pos (by omega), if_neg (by omega)]
        rw [e]
        exact H9.out)
  · by_cases hwa : (at_ : Int) ≤ s.w
    · refine Code.wp_mono NoPanic.imp ?_
      have HQ := hid hq
      clear hq
      conv => arg 2; whnf
      have hqi : (q : Int) < (g.length : Int) := by omega
      obtain ⟨bs, os, rfl, hbs, _, _, hx3⟩ := hx3'
      obtain ⟨b, off, rfl, hbl, c0', c1', c2', c3', c4'⟩ := sp_at5 HG.out hq0
      rw [hs] at c0' c1' c2' c3' c4'
      have c0 : wr.cell? ⟨b, off + q * 5, none⟩ = some (.int .i64 (s.x : Int)) := (N1.out.bel.cell (p := ⟨b, off + q * 5, none⟩) hbl).trans c0'
      have c1 : wr.cell? ⟨b, off + q * 5 + 1, none⟩ = some (.int .i64 (s.i : Int)) := (N1.out.bel.cell (p := ⟨b, off + q * 5 + 1, none⟩) hbl).trans c1'
      have c2 : wr.cell? ⟨b, off + q * 5 + 2, none⟩ = some (.int .i64 (s.f : Int)) := (N1.out.bel.cell (p := ⟨b, off + q * 5 + 2, none⟩) hbl).trans c2'
      have c3 : wr.cell? ⟨b, off + q * 5 + 3, none⟩ = some (.int .i64 s.w) := (N1.out.bel.cell (p := ⟨b, off + q * 5 + 3, none⟩) hbl).trans c3'
      have c4 : wr.cell? ⟨b, off + q * 5 + 4, none⟩ = some (.int .i64 (s.la : Int)) := (N1.out.bel.cell (p := ⟨b, off + q * 5 + 4, none⟩) hbl).trans c4'
      clear c0' c1' c2' c3' c4'
      have hfx : ¬ (s.f : Int) ≥ (at_ : Int) := by omega
      have hbw2 : s.w ≥ (at_ : Int) := hwa
      have hz2 := N1.out.bel.size
      go_upto_region 40 with fail
      have N2 := hid (N1.out.alloc (.cells #[.int .i64 (s.x : Int), .int .i64 (s.i : Int), .int .i64 (s.f : Int), .int .i64 s.w, .int .i64 (s.la : Int)] 102))
      have HB := hid (show (wr.alloc (.cells #[.int .i64 (s.x : Int), .int .i64 (s.i : Int), .int .i64 (s.f : Int), .int .i64 s.w, .int .i64 (s.la : Int)] 102)).heap[wr.heap.size]? = some (.cells s.cells.toArray 102 (0, 0)) from heap_alloc_new wr _)
      obtain ⟨wa, hwa⟩ : ∃ wa, wa = wr.alloc (.cells #[.int .i64 (s.x : Int), .int .i64 (s.i : Int), .int .i64 (s.f : Int), .int .i64 s.w, .int .i64 (s.la : Int)] 102) := ⟨_, rfl⟩
      obtain ⟨B, hBB⟩ : ∃ B, B = wr.heap.size := ⟨_, rfl⟩
      rw [← hwa] at N2 HB ⊢
      rw [← hBB] at HB ⊢
      have hBlt : B < wa.heap.size := (Array.getElem?_eq_some_iff.1 HB.out).1
      have hBge : w4.heap.size ≤ B := by omega
      have HNB := hid (show vL.ownBlock ≠ some B from fun e => by have := (N1.out.own.lt _ e).2; omega)
      clear hwa hBB c0 c1 c2 c3 c4 N1 hz2
      have d2 : wa.cell? ⟨B, 2, none⟩ = some (.int .i64 (s.f : Int)) := by rw [cell_of_row _ _ _ _ _ _ HB.out]; rfl
      have d3 : wa.cell? ⟨B, 3, none⟩ = some (.int .i64 s.w) := by rw [cell_of_row _ _ _ _ _ _ HB.out]; rfl
      have y1 : wa.cell? ⟨Bc, 0, none⟩ = some (.slice (some ⟨btx, otx, none⟩) nT captx) := (N2.out.bel.cell (p := ⟨Bc, 0, none⟩) hBc).trans hx1
      have y2 : wa.cell? ⟨btx, otx + i, none⟩ = some (.int .i64 (tx.getD i 0)) := (N2.out.bel.cell (p := ⟨btx, otx + i, none⟩) hbtx).trans hx2
      have y3 : wa.cell? ⟨bs, os + s.f * 3 + 2, none⟩ = some (.string (l.getD s.f ac0).it) := (N2.out.bel.cell (p := ⟨bs, os + s.f * 3 + 2, none⟩) hbs).trans hx3
      obtain ⟨b0, o0, e0, b1, o1, e1, l1, l2, l3, l4, l5, l6, l7, l8, l9, l10⟩ := HLd.out
      have l1' : wa.cell? ⟨0, 0, none⟩ = some (.slice (some ⟨b0, o0, none⟩) 2 e0) := (N2.out.bel.cell (p := ⟨0, 0, none⟩) l3).trans l1
      have l2' : wa.cell? ⟨1, 0, none⟩ = some (.slice (some ⟨b1, o1, none⟩) 2 e1) := (N2.out.bel.cell (p := ⟨1, 0, none⟩) l4).trans l2
      have l7' : wa.cell? ⟨b0, o0 + 1, none⟩ = some (.string kRl) := (N2.out.bel.cell (p := ⟨b0, o0 + 1, none⟩) l5).trans l7
      have l8' : wa.cell? ⟨b0, o0 + 3 + 1, none⟩ = some (.string kWl) := (N2.out.bel.cell (p := ⟨b0, o0 + 3 + 1, none⟩) l5).trans l8
      have l9' : wa.cell? ⟨b1, o1, none⟩ = some (.string mSh) := (N2.out.bel.cell (p := ⟨b1, o1, none⟩) l6).trans l9
      have l10' : wa.cell? ⟨b1, o1 + 1, none⟩ = some (.string mEx) := (N2.out.bel.cell (p := ⟨b1, o1 + 1, none⟩) l6).trans l10
      have HLL := hid (And.intro l1 (And.intro l2 (And.intro l7 (And.intro l8 (And.intro l9 l10)))))
      clear l1 l2 l7 l8 l9 l10
      have hii : (i : Int) < (nT : Int) := by omega
      have hi0 : (0 : Int) ≤ (i : Int) := by omega
      have hfi : (s.f : Int) < (n : Int) := by omega
      have hf0 : (0 : Int) ≤ (s.f : Int) := by omega
      have hwz := N2.out.bel.size
      obtain ⟨it, hit⟩ : ∃ it, (l.getD s.f ac0).it = it := ⟨_, rfl⟩
      obtain ⟨ti, hti⟩ : ∃ ti, tx.getD i 0 = ti := ⟨_, rfl⟩
      have HIT := hid hit
      have HTI := hid hti
      rw [hit] at y3
      rw [hti] at y2
      rw [hit] at hx3
      rw [hti] at hx2
      have HX := hid (And.intro hx1 (And.intro hx2 hx3))
      clear hit hti hx1 hx2 hx3
      go_region_held3 (fun W => W.cell? ⟨0, 0, none⟩ = some (.slice (some ⟨b0, o0, none⟩) 2 e0) ∧ W.cell? ⟨1, 0, none⟩ = some (.slice (some ⟨b1, o1, none⟩) 2 e1) ∧ W.cell? ⟨b0, o0 + 1, none⟩ = some (.string kRl) ∧ W.cell? ⟨b0, o0 + 3 + 1, none⟩ = some (.string kWl) ∧ W.cell? ⟨b1, o1, none⟩ = some (.string mSh) ∧ W.cell? ⟨b1, o1 + 1, none⟩ = some (.string mEx) ∧ W.cell? ⟨B, 2, none⟩ = some (.int .i64 (s.f : Int)) ∧ W.cell? ⟨B, 3, none⟩ = some (.int .i64 s.w) ∧ W.cell? ⟨Bc, 0, none⟩ = some (.slice (some ⟨btx, otx, none⟩) nT captx) ∧ W.cell? ⟨btx, otx + i, none⟩ = some (.int .i64 ti) ∧ W.cell? ⟨bs, os + s.f * 3 + 2, none⟩ = some (.string it)) (go_keep) (first
        | (go_at_call 52; refine Calls.mono (lockAct_t _ (b0 := b0) (o0 := o0) (c0 := e0) (b1 := b1) (o1 := o1) (c1 := e1) ?_ ?_ ?_ ?_ ?_ ?_) ?_; (simp [*]); (simp [*]); (simp [*]); (simp [*]); (simp [*]); (simp [*]); rintro e w' ⟨rfl, qq, rfl⟩)
        | (refine apDG Ybad.E24 (by rfl) _ _ (by rfl) w4.heap.size vL R.length (rowA R) (Ac.cells ⟨kWl, ti, it⟩) wa.heap.size (wa.heap.size + 1) (by rfl) (by rfl) ((LkL.same (N2.out.alloc (.cells (Ac.cells ⟨kWl, ti, it⟩).toArray 34)) rfl rfl rfl rfl).own) (heap_alloc_new wa _) rfl (Ac.one _) (by omega) (by simp; omega) (by simp) ?_; intro g1 cap1 w1 hown1 hgrow hat hlt1; have H9 := hid (LkL.app2 (N2.out.alloc (.cells (Ac.cells ⟨kWl, ti, it⟩).toArray 34)) (by rfl) (by rfl) (by rfl) (by rfl) hown1 hgrow); have hB9 : w1.heap[B]? = some (.cells s.cells.toArray 102 (0, 0)) := (copy_kept (by exact (Below.heap_alloc wa (.cells (Ac.cells ⟨kWl, ti, it⟩).toArray 34) _ hBlt).trans HB.out) hgrow HNB.out); have k8 : w1.cell? ⟨B, 2, none⟩ = some (.int .i64 (s.f : Int)) := (by rw [cell_of_row _ _ _ _ _ _ hB9]; rfl); have k9 : w1.cell? ⟨B, 3, none⟩ = some (.int .i64 s.w) := (by rw [cell_of_row _ _ _ _ _ _ hB9]; rfl); have kk0 := (H9.out.bel.cell (p := ⟨0, 0, none⟩) l3).trans HLL.out.1; have kk1 := (H9.out.bel.cell (p := ⟨1, 0, none⟩) l4).trans HLL.out.2.1; have kk2 := (H9.out.bel.cell (p := ⟨b0, o0 + 1, none⟩) l5).trans HLL.out.2.2.1; have kk3 := (H9.out.bel.cell (p := ⟨b0, o0 + 3 + 1, none⟩) l5).trans HLL.out.2.2.2.1; have kk4 := (H9.out.bel.cell (p := ⟨b1, o1, none⟩) l6).trans HLL.out.2.2.2.2.1; have kk5 := (H9.out.bel.cell (p := ⟨b1, o1 + 1, none⟩) l6).trans HLL.out.2.2.2.2.2; have kk6 := (H9.out.bel.cell (p := ⟨Bc, 0, none⟩) hBc).trans HX.out.1; have kk7 := (H9.out.bel.cell (p := ⟨btx, otx + i, none⟩) hbtx).trans HX.out.2.1; have kk8 := (H9.out.bel.cell (p := ⟨bs, os + s.f * 3 + 2, none⟩) hbs).trans HX.out.2.2; clear hown1 hgrow hat hB9))
      all_goals go_wp2_with fail
      all_goals (
        have HH := HQ.out
        rw [show ((q + 1 : Nat) : Int) = (q : Int) + 1 from by omega] at HH
        refine HH _ _ _ _ _ _ _ _ _ _ _ _ _ _ _ _ _ _ _ _ _ _ _ _ _ _ _ _ _ _ _ _ _ _ _ _ _ _ _ _ _ _ _ _ _ _ _ _ _ _ _ _ _ _ _ _ _ ?_
        have e : glOne l tx i at_ s = [⟨kWl, ti, it⟩] := by unfold glOne; rw [HIT.out, HTI.out, if_neg (by omega), if_pos (by omega)]
        rw [e]
        exact H9.out)
    · refine lk_round6 w4 wr q at_ capg ag g s vL R hgl hq0 HG hs (by omega) (by omega) N1 _ _ _ _ _ _ _ _ _ _ _ _ _ _ _ _ _ _ _ _ _ _ _ _ _ _ _ _ _ _ _ _ _ _ _ _ _ _ _ _ _ _ _ _ _ _ _ _ _ _ _ _ _ _ _ _ _ _ _ _ _ _ _ _ _ _ _ _ _ _ _ _ _ _ _ _ _ _ _ _ _ _ _ _ _ _ _ _ _ _ _ _ _ _ _ _ _ _ _ _ _ _ _ _ _ _ _ _ _ _ _ _ _ _ _ _ _ _ _ _ _ _ _ _ _ _ _ _ _ _ _ _ _ _ _ _ _ _ _ _ _ _ _ _ _ _ _ _ _ _ _ _ _ _ _ _ _ _ _ _ _ _ _ _ _ _ _ _ _ _ _ _ _ _ _ _ _ _ _ _ _ _ _ _ _ _ _ _ _ _ _ _ _ _ _ _ _ _ _ _ _ _ _ _ _ _ _ _ _ _ _ _ _ _ _ _ _ _ _ _ _ _ _ _ _ _ _ _ _ _ _ _ _ _ _ _ _ _ _ _ _ _ _ _ _ _ _ _ _ _ _ _ _ _ _ _ _ _ _ _ _ _ _ _ _ _ _ _ _ _ _ _ _ _ _ _ _ _ _ _ _ _ _ _ _ _ _ _ _ _ _ _ _ _ _ _ _ _ _ _ _ _ _ _ _ _ _ _ ?_
      intro u27 u190 u191 u192 u193 u194 u195 u196 u197 u198 u199 u200 u201 u202 u203 u204 u205 u206 u207 u208 u209 u210 u211 u212 u213 u214 u215 u216 u217 u218 u219 u220 u221 u222 u223 u224 u225 u226 u227 u228 u229 u230 u231 u232 u233 u234 u235 u236 u237 u238 u239 u240 u241 u242 u243 wi h
      refine hq _ _ _ _ _ _ _ _ _ _ _ _ _ _ _ _ _ _ _ _ _ _ _ _ _ _ _ _ _ _ _ _ _ _ _ _ _ _ _ _ _ _ _ _ _ _ _ _ _ _ _ _ _ _ _ vL wi ?_
      unfold glOne
      rw [if_neg hfa, if_neg hwa, List.append_nil]
      exact h

end Go.Proofs.YbulkbgasDoor
