import Derived.Test.YbulkbgasDoorLk5
namespace Go.Proofs.YbulkbgasDoor
open Go.RowKit Go.Maps
set_option linter.unusedVariables false
attribute [local go_sem ↓] Go.wp_at_zero Go.wp_at_succ

set_option maxRecDepth 1000000 in
set_option maxHeartbeats 4000000 in
theorem lk_round6 (w4 wr : World) (q at_ capg : Nat) (ag : Option Addr) (g : List Sp) (s : Sp) (vL : Value) (R : List Ac) (hgl : g.length ≤ 300) (hq0 : q < g.length) (HG : Hid (Els w4 5 ag g.length fun i => (g.getD i sp0).cells)) (hs : g.getD q sp0 = s) (hf : s.f < at_) (hw : s.w < (at_ : Int)) (N1 : Hid (LkL w4 wr vL R))
    (Q : Exit → Act → World → Prop) (c0 c1 c2 c3 c4 c5 c6 c7 c8 c9 c10 c11 c12 c13 c14 c15 c16 c17 c18 c19 c20 c21 c22 c24 c25 c26 c27 c28 c29 c30 c31 c32 c33 c34 c35 c36 c37 c38 c39 c40 c41 c42 c43 c44 c45 c46 c47 c48 c49 c50 c51 c52 c53 c54 c55 c56 c57 c58 c59 c60 c61 c62 c63 c64 c65 c66 c67 c68 c69 c70 c71 c72 c73 c74 c75 c76 c77 c78 c79 c80 c81 c82 c83 c84 c85 c86 c87 c88 c89 c90 c91 c92 c93 c94 c95 c96 c97 c98 c99 c100 c101 c102 c103 c104 c105 c106 c107 c108 c109 c110 c111 c112 c113 c114 c115 c116 c117 c118 c119 c120 c121 c122 c123 c124 c125 c126 c127 c128 c129 c130 c131 c132 c133 c134 c135 c136 c137 c138 c139 c140 c141 c142 c143 c144 c145 c146 c147 c148 c149 c150 c151 c152 c153 c154 c155 c156 c157 c158 c159 c160 c161 c162 c163 c164 c165 c166 c167 c168 c169 c170 c171 c172 c173 c174 c175 c176 c177 c178 c179 c180 c181 c182 c183 c184 c185 c186 c190 c191 c192 c193 c194 c195 c196 c197 c198 c199 c200 c201 c202 c203 c204 c205 c206 c207 c208 c209 c210 c211 c212 c213 c214 c215 c216 c217 c218 c219 c220 c221 c222 c223 c224 c225 c226 c227 c228 c229 c230 c231 c232 c233 c234 c235 c236 c237 c238 c239 c240 c241 c242 c243 c244 c245 c246 c247 c248 c249 c250 c251 c252 c253 c254 c255 c256 c257 c258 c259 c260 c261 c262 c263 c264 c265 c266 c267 c268 c269 c270 c271 c272 c273 c274 c275 c276 c277 c278 c279 c280 c281 c282 c283 c284 c285 c286 c287 c288 c289 c290 c291 c292 c293 c294 c295 c296 c297 c298 c299 c300 c301 c302 c303 c304 c305 c306 c307 c308 c309 c310 : Value)
    (hq : ∀ (u27 u190 u191 u192 u193 u194 u195 u196 u197 u198 u199 u200 u201 u202 u203 u204 u205 u206 u207 u208 u209 u210 u211 u212 u213 u214 u215 u216 u217 u218 u219 u220 u221 u222 u223 u224 u225 u226 u227 u228 u229 u230 u231 u232 u233 u234 u235 u236 u237 u238 u239 u240 u241 u242 u243 : Value) (wi : World), LkL w4 wi vL R → Q .normal ⟨#[c0, c1, c2, c3, c4, c5, c6, c7, c8, c9, c10, c11, c12, c13, c14, c15, c16, c17, c18, c19, c20, c21, c22, .int .i64 (at_ : Int), c24, c25, c26, u27, c28, c29, c30, c31, c32, c33, c34, c35, c36, c37, c38, c39, c40, c41, c42, c43, c44, c45, c46, c47, c48, c49, c50, c51, c52, c53, c54, c55, c56, c57, c58, c59, c60, c61, c62, c63, c64, c65, c66, c67, c68, c69, c70, c71, c72, c73, c74, c75, c76, c77, c78, c79, c80, c81, c82, c83, c84, c85, c86, c87, c88, c89, c90, c91, c92, c93, c94, c95, c96, c97, c98, c99, c100, c101, c102, c103, c104, c105, c106, c107, c108, c109, c110, c111, c112, c113, c114, c115, c116, c117, c118, c119, c120, c121, c122, c123, c124, c125, c126, c127, c128, c129, c130, c131, c132, c133, c134, c135, c136, c137, c138, c139, c140, c141, c142, c143, c144, c145, c146, c147, c148, c149, c150, c151, c152, c153, c154, c155, c156, c157, c158, c159, c160, c161, c162, c163, c164, c165, c166, c167, c168, c169, c170, c171, c172, c173, c174, c175, c176, c177, c178, c179, c180, c181, c182, c183, c184, c185, c186, .slice ag g.length capg, .int .i64 (g.length : Int), .int .i64 ((q + 1 : Nat) : Int), u190, u191, u192, u193, u194, u195, u196, u197, u198, u199, u200, u201, u202, u203, u204, u205, u206, u207, u208, u209, u210, u211, u212, u213, u214, u215, u216, u217, u218, u219, u220, u221, u222, u223, u224, u225, u226, u227, u228, u229, u230, u231, u232, u233, u234, u235, u236, u237, u238, u239, u240, u241, u242, u243, c244, c245, c246, c247, c248, c249, c250, c251, c252, c253, c254, c255, c256, c257, c258, c259, c260, c261, c262, c263, c264, c265, c266, c267, c268, c269, c270, c271, c272, c273, c274, c275, c276, c277, c278, c279, c280, c281, c282, c283, c284, c285, c286, c287, c288, c289, c290, c291, c292, c293, c294, c295, c296, c297, c298, c299, c300, c301, c302, c303, c304, c305, c306, c307, c308, c309, c310], []⟩ wi) :
    Code.wp Ybad.prog (lp32 5) Q ⟨#[c0, c1, c2, c3, c4, c5, c6, c7, c8, c9, c10, c11, c12, c13, c14, c15, c16, c17, c18, c19, c20, c21, c22, .int .i64 (at_ : Int), c24, c25, c26, c27, c28, c29, c30, c31, c32, c33, c34, c35, c36, c37, c38, c39, c40, c41, c42, c43, c44, c45, c46, c47, c48, c49, c50, c51, c52, c53, c54, c55, c56, c57, c58, c59, c60, c61, c62, c63, c64, c65, c66, c67, c68, c69, c70, c71, c72, c73, c74, c75, c76, c77, c78, c79, c80, c81, c82, c83, c84, c85, c86, c87, c88, c89, c90, c91, c92, c93, c94, c95, c96, c97, c98, c99, c100, c101, c102, c103, c104, c105, c106, c107, c108, c109, c110, c111, c112, c113, c114, c115, c116, c117, c118, c119, c120, c121, c122, c123, c124, c125, c126, c127, c128, c129, c130, c131, c132, c133, c134, c135, c136, c137, c138, c139, c140, c141, c142, c143, c144, c145, c146, c147, c148, c149, c150, c151, c152, c153, c154, c155, c156, c157, c158, c159, c160, c161, c162, c163, c164, c165, c166, c167, c168, c169, c170, c171, c172, c173, c174, c175, c176, c177, c178, c179, c180, c181, c182, c183, c184, c185, c186, .slice ag g.length capg, .int .i64 (g.length : Int), .int .i64 (q : Int), c190, c191, c192, c193, c194, c195, c196, c197, c198, c199, c200, c201, c202, c203, c204, c205, c206, c207, c208, c209, c210, c211, c212, c213, c214, c215, c216, c217, c218, c219, c220, c221, c222, c223, c224, c225, c226, c227, c228, c229, c230, c231, c232, c233, c234, c235, c236, c237, c238, c239, c240, c241, c242, c243, c244, c245, c246, c247, c248, c249, c250, c251, c252, c253, c254, c255, c256, c257, c258, c259, c260, c261, c262, c263, c264, c265, c266, c267, c268, c269, c270, c271, c272, c273, c274, c275, c276, c277, c278, c279, c280, c281, c282, c283, c284, c285, c286, c287, c288, c289, c290, c291, c292, c293, c294, c295, c296, c297, c298, c299, c300, c301, c302, c303, c304, c305, c306, c307, c308, c309, c310], []⟩ wr := by
  refine Code.wp_mono NoPanic.imp ?_
  have HQ := hid hq
  clear hq
  conv => arg 2; whnf
  have hqi : (q : Int) < (g.length : Int) := by omega
  obtain ⟨b, off, rfl, hbl, c0', c1', c2', c3', c4'⟩ := sp_at5 HG.out hq0
  rw [hs] at c0' c1' c2' c3' c4'
  have c0 : wr.cell? ⟨b, off + q * 5, none⟩ = some (.int .i64 (s.x : Int)) := (N1.out.bel.cell (p := ⟨b, off + q * 5, none⟩) hbl).trans c0'
  have c1 : wr.cell? ⟨b, off + q * 5 + 1, none⟩ = some (.int .i64 (s.i : Int)) := (N1.out.bel.cell (p := ⟨b, off + q * 5 + 1, none⟩) hbl).trans c1'
  have c2 : wr.cell? ⟨b, off + q * 5 + 2, none⟩ = some (.int .i64 (s.f : Int)) := (N1.out.bel.cell (p := ⟨b, off + q * 5 + 2, none⟩) hbl).trans c2'
  have c3 : wr.cell? ⟨b, off + q * 5 + 3, none⟩ = some (.int .i64 s.w) := (N1.out.bel.cell (p := ⟨b, off + q * 5 + 3, none⟩) hbl).trans c3'
  have c4 : wr.cell? ⟨b, off + q * 5 + 4, none⟩ = some (.int .i64 (s.la : Int)) := (N1.out.bel.cell (p := ⟨b, off + q * 5 + 4, none⟩) hbl).trans c4'
  clear c0' c1' c2' c3' c4'
  have hfi : ¬ (at_ : Int) ≤ (s.f : Int) := by omega
  have hfn : ¬ at_ ≤ s.f := by omega
  have hwi : ¬ (at_ : Int) ≤ s.w := by omega
  have N2 := hid (N1.out.alloc (.cells #[.int .i64 (s.x : Int), .int .i64 (s.i : Int), .int .i64 (s.f : Int), .int .i64 s.w, .int .i64 (s.la : Int)] 102))
  go_wp2_with fail
  have HH := HQ.out
  rw [show ((q + 1 : Nat) : Int) = (q : Int) + 1 from by omega] at HH
  exact HH _ _ _ _ _ _ _ _ _ _ _ _ _ _ _ _ _ _ _ _ _ _ _ _ _ _ _ _ _ _ _ _ _ _ _ _ _ _ _ _ _ _ _ _ _ _ _ _ _ _ _ _ _ _ _ _ N2.out

set_option maxRecDepth 1000000 in
set_option maxHeartbeats 4000000 in
theorem lk_round5 (w4 wr : World) (Bc Bt nT n q at_ i captx capl capp : Nat) (btx otx : Nat) (ap_ as_ : Option Addr) (pts : List Nat) (S : List Sp) (l : List Ac) (tx : List Int) (vL : Value) (R : List Ac) (hn : l.length = n) (hn2 : n ≤ 10000) (hpl : pts.length ≤ 1000) (hq0 : q < pts.length) (hp1 : ∃ b o, ap_ = some ⟨b, o, none⟩ ∧ b < w4.heap.size ∧ w4.cell? ⟨b, o + q, none⟩ = some (.int .i64 (i : Int))) (hi : i < nT) (hnT : nT ≤ 1000) (HS : Hid (∀ s ∈ byT S i, s.f < at_ ∧ s.w < (at_ : Int) ∧ s.la < at_ ∧ s.f < n)) (HBY : Hid (By w4 Bt nT (byT S))) (hRl : R.length + (byT S i).length ≤ 20000) (hBc : Bc < w4.heap.size) (hbtx : btx < w4.heap.size) (hx1 : w4.cell? ⟨Bc, 0, none⟩ = some (.slice (some ⟨btx, otx, none⟩) nT captx)) (hx2 : w4.cell? ⟨btx, otx + i, none⟩ = some (.int .i64 (tx.getD i 0))) (HX3 : Hid (∀ f, f < n → ∃ bs os, as_ = some ⟨bs, os, none⟩ ∧ bs < w4.heap.size ∧ w4.cell? ⟨bs, os + f * 3, none⟩ = some (.string (l.getD f ac0).k) ∧ w4.cell? ⟨bs, os + f * 3 + 1, none⟩ = some (.int .i64 (l.getD f ac0).t) ∧ w4.cell? ⟨bs, os + f * 3 + 2, none⟩ = some (.string (l.getD f ac0).it))) (N1 : Hid (LkL w4 wr vL R))
    (Q : Exit → Act → World → Prop) (c2 c3 c4 c5 c6 c7 c8 c9 c10 c12 c13 c14 c15 c16 c17 c18 c19 c20 c21 c24 c25 c26 c27 c28 c29 c30 c31 c32 c33 c34 c35 c36 c37 c38 c39 c40 c41 c42 c43 c44 c45 c46 c47 c48 c49 c50 c51 c52 c53 c54 c55 c56 c57 c58 c59 c60 c61 c62 c63 c64 c65 c66 c67 c68 c69 c70 c71 c72 c73 c74 c75 c76 c77 c78 c79 c80 c81 c82 c83 c84 c85 c86 c87 c88 c89 c90 c91 c92 c93 c94 c95 c96 c97 c98 c99 c100 c101 c102 c103 c104 c105 c106 c107 c108 c109 c110 c111 c112 c113 c114 c115 c116 c117 c118 c119 c120 c121 c122 c123 c124 c125 c126 c127 c128 c129 c130 c131 c132 c133 c134 c135 c136 c137 c138 c139 c140 c141 c142 c143 c144 c145 c146 c147 c148 c149 c150 c151 c152 c153 c154 c155 c156 c157 c158 c159 c160 c161 c162 c163 c164 c165 c166 c167 c168 c169 c170 c171 c172 c173 c174 c175 c176 c177 c181 c182 c183 c184 c185 c186 c187 c188 c189 c190 c191 c192 c193 c194 c195 c196 c197 c198 c199 c200 c201 c202 c203 c204 c205 c206 c207 c208 c209 c210 c211 c212 c213 c214 c215 c216 c217 c218 c219 c220 c221 c222 c223 c224 c225 c226 c227 c228 c229 c230 c231 c232 c233 c234 c235 c236 c237 c238 c239 c240 c241 c242 c243 c244 c245 c246 c247 c248 c249 c250 c251 c252 c253 c254 c255 c256 c257 c258 c259 c260 c261 c262 c263 c264 c265 c266 c267 c268 c269 c270 c271 c272 c273 c274 c275 c276 c277 c278 c279 c280 c281 c282 c283 c284 c285 c286 c287 c288 c289 c290 c291 c292 c293 c294 c295 c296 c297 c298 c299 c300 c301 c302 c303 c304 c305 c306 c307 c308 c309 c310 : Value)
    (hq : ∀ (u25 u27 u29 u181 u182 u183 u184 u185 u186 u187 u188 u189 u190 u191 u192 u193 u194 u195 u196 u197 u198 u199 u200 u201 u202 u203 u204 u205 u206 u207 u208 u209 u210 u211 u212 u213 u214 u215 u216 u217 u218 u219 u220 u221 u222 u223 u224 u225 u226 u227 u228 u229 u230 u231 u232 u233 u234 u235 u236 u237 u238 u239 u240 u241 u242 u243 u244 u245 u246 u247 u248 u249 u250 u251 u252 u253 u254 u255 u256 u257 u258 u259 u260 u261 u262 u263 u264 u265 u266 u267 u268 u269 u270 u271 u272 u273 u274 u275 : Value) (vL2 : Value) (wi : World), LkL w4 wi vL2 (R ++ (byT S i).map (lkU l tx i)) → Q .normal ⟨#[.pointer (some ⟨Bc, 0, none⟩), .slice as_ n capl, c2, c3, c4, c5, c6, c7, c8, c9, c10, .slice (some ⟨Bt, 0, none⟩) nT nT, c12, c13, c14, c15, c16, c17, c18, c19, c20, c21, vL2, .int .i64 (at_ : Int), c24, u25, c26, u27, c28, u29, c30, c31, c32, c33, c34, c35, c36, c37, c38, c39, c40, c41, c42, c43, c44, c45, c46, c47, c48, c49, c50, c51, c52, c53, c54, c55, c56, c57, c58, c59, c60, c61, c62, c63, c64, c65, c66, c67, c68, c69, c70, c71, c72, c73, c74, c75, c76, c77, c78, c79, c80, c81, c82, c83, c84, c85, c86, c87, c88, c89, c90, c91, c92, c93, c94, c95, c96, c97, c98, c99, c100, c101, c102, c103, c104, c105, c106, c107, c108, c109, c110, c111, c112, c113, c114, c115, c116, c117, c118, c119, c120, c121, c122, c123, c124, c125, c126, c127, c128, c129, c130, c131, c132, c133, c134, c135, c136, c137, c138, c139, c140, c141, c142, c143, c144, c145, c146, c147, c148, c149, c150, c151, c152, c153, c154, c155, c156, c157, c158, c159, c160, c161, c162, c163, c164, c165, c166, c167, c168, c169, c170, c171, c172, c173, c174, c175, c176, c177, .slice ap_ pts.length capp, .int .i64 (pts.length : Int), .int .i64 ((q + 1 : Nat) : Int), u181, u182, u183, u184, u185, u186, u187, u188, u189, u190, u191, u192, u193, u194, u195, u196, u197, u198, u199, u200, u201, u202, u203, u204, u205, u206, u207, u208, u209, u210, u211, u212, u213, u214, u215, u216, u217, u218, u219, u220, u221, u222, u223, u224, u225, u226, u227, u228, u229, u230, u231, u232, u233, u234, u235, u236, u237, u238, u239, u240, u241, u242, u243, u244, u245, u246, u247, u248, u249, u250, u251, u252, u253, u254, u255, u256, u257, u258, u259, u260, u261, u262, u263, u264, u265, u266, u267, u268, u269, u270, u271, u272, u273, u274, u275, c276, c277, c278, c279, c280, c281, c282, c283, c284, c285, c286, c287, c288, c289, c290, c291, c292, c293, c294, c295, c296, c297, c298, c299, c300, c301, c302, c303, c304, c305, c306, c307, c308, c309, c310], []⟩ wi) :
    Code.wp Ybad.prog (lp32 4) Q ⟨#[.pointer (some ⟨Bc, 0, none⟩), .slice as_ n capl, c2, c3, c4, c5, c6, c7, c8, c9, c10, .slice (some ⟨Bt, 0, none⟩) nT nT, c12, c13, c14, c15, c16, c17, c18, c19, c20, c21, vL, .int .i64 (at_ : Int), c24, c25, c26, c27, c28, c29, c30, c31, c32, c33, c34, c35, c36, c37, c38, c39, c40, c41, c42, c43, c44, c45, c46, c47, c48, c49, c50, c51, c52, c53, c54, c55, c56, c57, c58, c59, c60, c61, c62, c63, c64, c65, c66, c67, c68, c69, c70, c71, c72, c73, c74, c75, c76, c77, c78, c79, c80, c81, c82, c83, c84, c85, c86, c87, c88, c89, c90, c91, c92, c93, c94, c95, c96, c97, c98, c99, c100, c101, c102, c103, c104, c105, c106, c107, c108, c109, c110, c111, c112, c113, c114, c115, c116, c117, c118, c119, c120, c121, c122, c123, c124, c125, c126, c127, c128, c129, c130, c131, c132, c133, c134, c135, c136, c137, c138, c139, c140, c141, c142, c143, c144, c145, c146, c147, c148, c149, c150, c151, c152, c153, c154, c155, c156, c157, c158, c159, c160, c161, c162, c163, c164, c165, c166, c167, c168, c169, c170, c171, c172, c173, c174, c175, c176, c177, .slice ap_ pts.length capp, .int .i64 (pts.length : Int), .int .i64 (q : Int), c181, c182, c183, c184, c185, c186, c187, c188, c189, c190, c191, c192, c193, c194, c195, c196, c197, c198, c199, c200, c201, c202, c203, c204, c205, c206, c207, c208, c209, c210, c211, c212, c213, c214, c215, c216, c217, c218, c219, c220, c221, c222, c223, c224, c225, c226, c227, c228, c229, c230, c231, c232, c233, c234, c235, c236, c237, c238, c239, c240, c241, c242, c243, c244, c245, c246, c247, c248, c249, c250, c251, c252, c253, c254, c255, c256, c257, c258, c259, c260, c261, c262, c263, c264, c265, c266, c267, c268, c269, c270, c271, c272, c273, c274, c275, c276, c277, c278, c279, c280, c281, c282, c283, c284, c285, c286, c287, c288, c289, c290, c291, c292, c293, c294, c295, c296, c297, c298, c299, c300, c301, c302, c303, c304, c305, c306, c307, c308, c309, c310], []⟩ wr := by
  refine Code.wp_mono NoPanic.imp ?_
  have HQ := hid hq
  clear hq
  conv => arg 2; whnf
  have hqi : (q : Int) < (pts.length : Int) := by omega
  obtain ⟨b, o, rfl, hbl, c0'⟩ := hp1
  have c0 : wr.cell? ⟨b, o + q, none⟩ = some (.int .i64 (i : Int)) := (N1.out.bel.cell (p := ⟨b, o + q, none⟩) hbl).trans c0'
  have hii : (i : Int) < (nT : Int) := by omega
  have hi0 : (0 : Int) ≤ (i : Int) := by omega
  obtain ⟨hBt, hby⟩ := HBY.out
  obtain ⟨ag, capg, e1, e2, e3⟩ := hby i hi
  have HE := hid e3
  have HE1 := hid e1
  have c1 := (N1.out.bel.cell (p := ⟨Bt, i, none⟩) hBt).trans e1
  have HX1 := hid hx1
  have HX2 := hid hx2
  clear hby e3 e1 c0' hx1 hx2
  have hgl : ((byT S i).length : Int) ≤ 300 := by omega
  go_wp2_with fail
  go_loopg [22, 189] (byT S i).length (fun g0 vv iv wi => ∃ t : Nat, t ≤ (byT S i).length ∧ g0 = (byT S i).length - t ∧ vL = vv ∧ iv = .int .i64 (t : Int) ∧ LkL w4 wi vL R)
  case atStart => exact ⟨0, Nat.zero_le _, rfl, rfl, rfl, N1.out⟩
  case round =>
    obtain ⟨t, ht, rfl, rfl, rfl, hst⟩ := hrel
    have N2 := hid hst
    clear hst N1 c0 c1
    by_cases hlt3 : t < (byT S i).length
    · obtain ⟨hs1, hs2, hs3, hs4⟩ := HS.out ((byT S i).getD t sp0) (by rw [List.getD_eq_getElem?_getD, List.getElem?_eq_getElem hlt3]; exact List.getElem_mem _)
      refine lk_round6 w4 wr t at_ capg ag (byT S i) _ vL R e2 hlt3 HE rfl hs1 hs2 N2 _ _ _ _ _ _ _ _ _ _ _ _ _ _ _ _ _ _ _ _ _ _ _ _ _ _ _ _ _ _ _ _ _ _ _ _ _ _ _ _ _ _ _ _ _ _ _ _ _ _ _ _ _ _ _ _ _ _ _ _ _ _ _ _ _ _ _ _ _ _ _ _ _ _ _ _ _ _ _ _ _ _ _ _ _ _ _ _ _ _ _ _ _ _ _ _ _ _ _ _ _ _ _ _ _ _ _ _ _ _ _ _ _ _ _ _ _ _ _ _ _ _ _ _ _ _ _ _ _ _ _ _ _ _ _ _ _ _ _ _ _ _ _ _ _ _ _ _ _ _ _ _ _ _ _ _ _ _ _ _ _ _ _ _ _ _ _ _ _ _ _ _ _ _ _ _ _ _ _ _ _ _ _ _ _ _ _ _ _ _ _ _ _ _ _ _ _ _ _ _ _ _ _ _ _ _ _ _ _ _ _ _ _ _ _ _ _ _ _ _ _ _ _ _ _ _ _ _ _ _ _ _ _ _ _ _ _ _ _ _ _ _ _ _ _ _ _ _ _ _ _ _ _ _ _ _ _ _ _ _ _ _ _ _ _ _ _ _ _ _ _ _ _ _ _ _ _ _ _ _ _ _ _ _ _ _ _ _ _ _ _ _ _ _ _ _ _ _ _ _ _ _ _ _ _ _ _ _ ?_
      intro u27 u190 u191 u192 u193 u194 u195 u196 u197 u198 u199 u200 u201 u202 u203 u204 u205 u206 u207 u208 u209 u210 u211 u212 u213 u214 u215 u216 u217 u218 u219 u220 u221 u222 u223 u224 u225 u226 u227 u228 u229 u230 u231 u232 u233 u234 u235 u236 u237 u238 u239 u240 u241 u242 u243 wi hst
      dsimp only [Exit.then]
      go_wp2_with fail
      go_roundg ((byT S i).length - (t + 1))
      case measure => omega
      case rel => exact ⟨t + 1, by omega, rfl, rfl, rfl, hst⟩
    · obtain rfl : t = (byT S i).length := by omega
      have c1 := (N2.out.bel.cell (p := ⟨Bt, i, none⟩) hBt).trans HE1.out
      go_wp2_with fail
      go_loopg [22, 249] (byT S i).length (fun g0 vv iv wi => ∃ (t : Nat) (vL3 : Value), t ≤ (byT S i).length ∧ g0 = (byT S i).length - t ∧ vL3 = vv ∧ iv = .int .i64 (t : Int) ∧ LkL w4 wi vL3 (R ++ ((byT S i).take t).map (lkU l tx i)))
      case atStart => exact ⟨0, vL, Nat.zero_le _, rfl, rfl, rfl, by simpa using N2.out⟩
      case round =>
        obtain ⟨t, vL3, ht, rfl, rfl, rfl, hst⟩ := hrel
        have N3 := hid hst
        clear hst N2 c1
        by_cases hlt3 : t < (byT S i).length
        · obtain ⟨hs1, hs2, hs3, hs4⟩ := HS.out ((byT S i).getD t sp0) (by rw [List.getD_eq_getElem?_getD, List.getElem?_eq_getElem hlt3]; exact List.getElem_mem _)
          refine lk_round7 w4 wr Bc nT n t at_ i capg captx capl ag as_ btx otx (byT S i) _ l tx vL3 _ hn hn2 e2 hlt3 HE rfl hs3 hs4 (by rw [List.length_append, List.length_map, List.length_take]; omega) hBc hbtx hi HX1.out HX2.out (HX3.out _ hs4) N3 _ _ _ _ _ _ _ _ _ _ _ _ _ _ _ _ _ _ _ _ _ _ _ _ _ _ _ _ _ _ _ _ _ _ _ _ _ _ _ _ _ _ _ _ _ _ _ _ _ _ _ _ _ _ _ _ _ _ _ _ _ _ _ _ _ _ _ _ _ _ _ _ _ _ _ _ _ _ _ _ _ _ _ _ _ _ _ _ _ _ _ _ _ _ _ _ _ _ _ _ _ _ _ _ _ _ _ _ _ _ _ _ _ _ _ _ _ _ _ _ _ _ _ _ _ _ _ _ _ _ _ _ _ _ _ _ _ _ _ _ _ _ _ _ _ _ _ _ _ _ _ _ _ _ _ _ _ _ _ _ _ _ _ _ _ _ _ _ _ _ _ _ _ _ _ _ _ _ _ _ _ _ _ _ _ _ _ _ _ _ _ _ _ _ _ _ _ _ _ _ _ _ _ _ _ _ _ _ _ _ _ _ _ _ _ _ _ _ _ _ _ _ _ _ _ _ _ _ _ _ _ _ _ _ _ _ _ _ _ _ _ _ _ _ _ _ _ _ _ _ _ _ _ _ _ _ _ _ _ _ _ _ _ _ _ _ _ _ _ _ _ _ _ _ _ _ _ _ _ _ _ _ _ _ _ _ _ _ _ _ _ _ _ _ _ _ _ _ _ _ _ _ _ _ ?_
          intro u29 u250 u251 u252 u253 u254 u255 u256 u257 u258 u259 u260 u261 u262 u263 u264 u265 u266 u267 u268 u269 u270 u271 u272 u273 u274 vL4 wi hst
          dsimp only [Exit.then]
          go_wp2_with fail
          go_roundg ((byT S i).length - (t + 1))
          case measure => omega
          case rel =>
            refine ⟨t + 1, vL4, by omega, rfl, rfl, rfl, ?_⟩
            rw [List.take_succ_eq_append_getElem hlt3, List.map_append, ← List.append_assoc]
            have e : (byT S i).getD t sp0 = (byT S i)[t] := by simp [List.getD_eq_getElem?_getD, List.getElem?_eq_getElem hlt3]
            rw [e] at hst
            exact hst
        · obtain rfl : t = (byT S i).length := by omega
          rw [List.take_length] at N3
          go_wp2_with fail
          have HH := HQ.out
          rw [show ((q + 1 : Nat) : Int) = (q : Int) + 1 from by omega] at HH
          exact HH _ _ _ _ _ _ _ _ _ _ _ _ _ _ _ _ _ _ _ _ _ _ _ _ _ _ _ _ _ _ _ _ _ _ _ _ _ _ _ _ _ _ _ _ _ _ _ _ _ _ _ _ _ _ _ _ _ _ _ _ _ _ _ _ _ _ _ _ _ _ _ _ _ _ _ _ _ _ _ _ _ _ _ _ _ _ _ _ _ _ _ _ _ _ _ _ _ _ _ _ N3.out

end Go.Proofs.YbulkbgasDoor
