import Derived.Test.YbulkbgasDoorGk1
namespace Go.Proofs.YbulkbgasDoor
open Go.RowKit Go.Maps
set_option linter.unusedVariables false
attribute [local go_sem ↓] Go.wp_at_zero Go.wp_at_succ

/-- The latest place, and what bounds it. -/
def mvS (La : Nat → Int) (p : Int × Int) (j : Nat) : Int × Int := if La j < p.1 then (La j, (j : Int)) else p
def mvL (La : Nat → Int) (xs : List Nat) (v0 : Int) : Int × Int := xs.foldl (mvS La) (v0, -1)
theorem mv_step {La Vi : Nat → Int} {i : Nat} {xs : List Nat} {t j : Nat} (ht : t < xs.length) (hj : xs[t] = j) (hij : j ≠ i) (v0 : Int) :
    updL La i (mvL La (xs.take (t + 1)) v0).1 = updL (updL La i (mvL La (xs.take t) v0).1) i (if updL La i (mvL La (xs.take t) v0).1 j < updL La i (mvL La (xs.take t) v0).1 i then updL La i (mvL La (xs.take t) v0).1 j else updL La i (mvL La (xs.take t) v0).1 i) ∧
    updL Vi i (mvL La (xs.take (t + 1)) v0).2 = updL (updL Vi i (mvL La (xs.take t) v0).2) i (if updL La i (mvL La (xs.take t) v0).1 j < updL La i (mvL La (xs.take t) v0).1 i then (j : Int) else updL Vi i (mvL La (xs.take t) v0).2 i) := by
  have e : mvL La (xs.take (t + 1)) v0 = mvS La (mvL La (xs.take t) v0) j := by
    unfold mvL
    rw [List.take_succ_eq_append_getElem ht, List.foldl_append, hj]; rfl
  rw [updL_updL, updL_updL, updL_same, updL_other _ hij, updL_same, e]
  generalize mvL La (xs.take t) v0 = p
  unfold mvS
  constructor
  · by_cases h : La j < p.1
    · rw [if_pos h, if_pos h]
    · rw [if_neg h, if_neg h]
  · by_cases h : La j < p.1
    · rw [if_pos h, if_pos h]
    · rw [if_neg h, if_neg h]

set_option maxRecDepth 1000000 in
set_option maxHeartbeats 4000000 in
theorem gk_round5 (w7 wr : World) (nT i j t Bla Bvi Bpl capx : Nat) (La Vi Pl : Nat → Int) (xs : List Nat) (bx ox : Nat) (hnT : nT ≤ 1000) (hi : i < nT) (hxl : xs.length ≤ 100000) (ht : t < xs.length) (hj : xs[t] = j) (hjn : j < nT) (hbx : bx < w7.heap.size) (hx : w7.cell? ⟨bx, ox + t, none⟩ = some (.int .i64 (j : Int))) (hij : j ≠ i) (N1 : Hid (CkL w7 wr Bla Bvi Bpl nT La Vi Pl))
    (Q : Exit → Act → World → Prop) (c0 c1 c2 c3 c4 c5 c6 c7 c8 c9 c10 c11 c12 c13 c14 c15 c16 c17 c18 c21 c22 c24 c25 c26 c27 c28 c29 c30 c31 c32 c33 c34 c35 c36 c37 c38 c39 c40 c41 c42 c43 c44 c45 c46 c47 c48 c49 c50 c51 c52 c53 c54 c55 c56 c57 c58 c59 c60 c61 c62 c63 c64 c65 c66 c67 c68 c69 c70 c71 c72 c73 c74 c75 c76 c77 c78 c79 c80 c81 c82 c83 c84 c85 c86 c87 c88 c89 c90 c91 c92 c93 c94 c95 c96 c97 c98 c99 c100 c101 c102 c103 c104 c105 c106 c107 c108 c109 c110 c111 c112 c113 c114 c115 c116 c117 c118 c119 c120 c121 c122 c123 c124 c125 c126 c127 c128 c129 c130 c131 c132 c133 c134 c135 c136 c137 c138 c139 c140 c141 c142 c143 c144 c145 c146 c147 c148 c149 c150 c151 c152 c153 c154 c155 c156 c157 c158 c159 c160 c161 c162 c163 c164 c165 c166 c167 c168 c169 c170 c171 c172 c173 c174 c175 c176 c177 c178 c179 c180 c181 c182 c183 c184 c185 c186 c187 c188 c189 c190 c191 c192 c193 c194 c195 c196 c197 c198 c199 c200 c201 c202 c203 c204 c205 c206 c207 c208 c212 c213 c214 c215 c216 c217 c218 c219 c220 c221 c222 c223 c224 c225 c226 c227 c228 c229 c230 c231 c232 c233 c234 c235 c236 c237 c238 c239 c240 c241 c242 c243 c244 c245 c246 c247 c248 c249 c250 c251 c252 c253 c254 c255 c256 c257 c258 c259 c260 c261 c262 c263 c264 c265 c266 c267 c268 c269 c270 c271 c272 c273 c274 c275 c276 c277 c278 c279 c280 c281 c282 c283 c284 c285 c286 c287 c288 c289 c290 c291 c292 c293 c294 c295 c296 c297 c298 c299 c300 c301 c302 c303 : Value)
    (hq : ∀ (u27 u212 u213 u214 u215 u216 u217 u218 u219 u220 u221 u222 u223 u224 u225 u226 u227 u228 u229 u230 u231 u232 u233 u234 u235 : Value) (wi : World), CkL w7 wi Bla Bvi Bpl nT (updL La i (if La j < La i then La j else La i)) (updL Vi i (if La j < La i then (j : Int) else Vi i)) Pl → Q .normal ⟨#[c0, c1, c2, c3, c4, c5, c6, c7, c8, c9, c10, c11, c12, c13, c14, c15, c16, c17, c18, .slice (some ⟨Bla, 0, none⟩) nT nT, .slice (some ⟨Bvi, 0, none⟩) nT nT, c21, c22, .int .i64 (i : Int), c24, c25, c26, u27, c28, c29, c30, c31, c32, c33, c34, c35, c36, c37, c38, c39, c40, c41, c42, c43, c44, c45, c46, c47, c48, c49, c50, c51, c52, c53, c54, c55, c56, c57, c58, c59, c60, c61, c62, c63, c64, c65, c66, c67, c68, c69, c70, c71, c72, c73, c74, c75, c76, c77, c78, c79, c80, c81, c82, c83, c84, c85, c86, c87, c88, c89, c90, c91, c92, c93, c94, c95, c96, c97, c98, c99, c100, c101, c102, c103, c104, c105, c106, c107, c108, c109, c110, c111, c112, c113, c114, c115, c116, c117, c118, c119, c120, c121, c122, c123, c124, c125, c126, c127, c128, c129, c130, c131, c132, c133, c134, c135, c136, c137, c138, c139, c140, c141, c142, c143, c144, c145, c146, c147, c148, c149, c150, c151, c152, c153, c154, c155, c156, c157, c158, c159, c160, c161, c162, c163, c164, c165, c166, c167, c168, c169, c170, c171, c172, c173, c174, c175, c176, c177, c178, c179, c180, c181, c182, c183, c184, c185, c186, c187, c188, c189, c190, c191, c192, c193, c194, c195, c196, c197, c198, c199, c200, c201, c202, c203, c204, c205, c206, c207, c208, .slice (some ⟨bx, ox, none⟩) xs.length capx, .int .i64 (xs.length : Int), .int .i64 ((t + 1 : Nat) : Int), u212, u213, u214, u215, u216, u217, u218, u219, u220, u221, u222, u223, u224, u225, u226, u227, u228, u229, u230, u231, u232, u233, u234, u235, c236, c237, c238, c239, c240, c241, c242, c243, c244, c245, c246, c247, c248, c249, c250, c251, c252, c253, c254, c255, c256, c257, c258, c259, c260, c261, c262, c263, c264, c265, c266, c267, c268, c269, c270, c271, c272, c273, c274, c275, c276, c277, c278, c279, c280, c281, c282, c283, c284, c285, c286, c287, c288, c289, c290, c291, c292, c293, c294, c295, c296, c297, c298, c299, c300, c301, c302, c303], []⟩ wi) :
    Code.wp Ybad.prog (lp7 4) Q ⟨#[c0, c1, c2, c3, c4, c5, c6, c7, c8, c9, c10, c11, c12, c13, c14, c15, c16, c17, c18, .slice (some ⟨Bla, 0, none⟩) nT nT, .slice (some ⟨Bvi, 0, none⟩) nT nT, c21, c22, .int .i64 (i : Int), c24, c25, c26, c27, c28, c29, c30, c31, c32, c33, c34, c35, c36, c37, c38, c39, c40, c41, c42, c43, c44, c45, c46, c47, c48, c49, c50, c51, c52, c53, c54, c55, c56, c57, c58, c59, c60, c61, c62, c63, c64, c65, c66, c67, c68, c69, c70, c71, c72, c73, c74, c75, c76, c77, c78, c79, c80, c81, c82, c83, c84, c85, c86, c87, c88, c89, c90, c91, c92, c93, c94, c95, c96, c97, c98, c99, c100, c101, c102, c103, c104, c105, c106, c107, c108, c109, c110, c111, c112, c113, c114, c115, c116, c117, c118, c119, c120, c121, c122, c123, c124, c125, c126, c127, c128, c129, c130, c131, c132, c133, c134, c135, c136, c137, c138, c139, c140, c141, c142, c143, c144, c145, c146, c147, c148, c149, c150, c151, c152, c153, c154, c155, c156, c157, c158, c159, c160, c161, c162, c163, c164, c165, c166, c167, c168, c169, c170, c171, c172, c173, c174, c175, c176, c177, c178, c179, c180, c181, c182, c183, c184, c185, c186, c187, c188, c189, c190, c191, c192, c193, c194, c195, c196, c197, c198, c199, c200, c201, c202, c203, c204, c205, c206, c207, c208, .slice (some ⟨bx, ox, none⟩) xs.length capx, .int .i64 (xs.length : Int), .int .i64 (t : Int), c212, c213, c214, c215, c216, c217, c218, c219, c220, c221, c222, c223, c224, c225, c226, c227, c228, c229, c230, c231, c232, c233, c234, c235, c236, c237, c238, c239, c240, c241, c242, c243, c244, c245, c246, c247, c248, c249, c250, c251, c252, c253, c254, c255, c256, c257, c258, c259, c260, c261, c262, c263, c264, c265, c266, c267, c268, c269, c270, c271, c272, c273, c274, c275, c276, c277, c278, c279, c280, c281, c282, c283, c284, c285, c286, c287, c288, c289, c290, c291, c292, c293, c294, c295, c296, c297, c298, c299, c300, c301, c302, c303], []⟩ wr := by
  refine Code.wp_mono NoPanic.imp ?_
  have HQ := hid hq
  clear hq
  conv => arg 2; whnf
  have hti : (t : Int) < (xs.length : Int) := by omega
  have c0 := (N1.out.bel.cell (p := ⟨bx, ox + t, none⟩) hbx).trans hx
  have c1 := N1.out.la.cell hjn
  have c2 := N1.out.la.cell hi
  try dsimp only at c1 c2
  have hji : (j : Int) < (nT : Int) := by omega
  have hj0 : (0 : Int) ≤ (j : Int) := by omega
  have hii : (i : Int) < (nT : Int) := by omega
  have hi0 : (0 : Int) ≤ (i : Int) := by omega
  obtain ⟨lj, hlj⟩ : ∃ lj, La j = lj := ⟨_, rfl⟩
  obtain ⟨li, hli⟩ : ∃ li, La i = li := ⟨_, rfl⟩
  rw [hlj] at c1
  rw [hli] at c2
  rw [hlj, hli] at HQ
  have HLJ := hid hlj
  have HLI := hid hli
  clear hlj hli hj hx
  go_upto_region 44 with fail
  go_cut [223] from 212 to 235 (fun b wd => b = .bool (decide (lj < li)) ∧ CkL w7 wd Bla Bvi Bpl nT La Vi Pl)
  case first =>
    go_quiet (fail)
    go_wp2
    go_meet
    exact ⟨rfl, N1.out.drewN _⟩
  case rest =>
    obtain ⟨rfl, hc⟩ := hcut
    have N2 := hid hc
    clear hc N1 c0 c1 c2
    by_cases hlt : lj < li
    · rw [decide_eq_true hlt]
      rw [if_pos hlt, if_pos hlt] at HQ
      have d0 := N2.out.la.cell hjn
      have d1 := N2.out.la.cell hi
      have f1 := N2.out.la.free i
      have g := N2.out.ge
      try dsimp only at d0 d1
      rw [HLJ.out] at d0
      rw [HLI.out] at d1
      have N3 := hid (N2.out.setLa hi lj)
      have d2 := N3.out.vi.cell hi
      have f2 := N3.out.vi.free i
      have N4 := hid (N3.out.setVi hi (j : Int))
      have HLT := hid hlt
      clear hlt
      go_wp2_with fail
      have HH := HQ.out
      rw [show ((t + 1 : Nat) : Int) = (t : Int) + 1 from by omega] at HH
      exact HH _ _ _ _ _ _ _ _ _ _ _ _ _ _ _ _ _ _ _ _ _ _ _ _ _ _ N4.out
    · rw [decide_eq_false hlt]
      rw [if_neg hlt, if_neg hlt] at HQ
      have e : updL La i li = La := by rw [← HLI.out]; exact updL_self _ _
      go_wp2_with fail
      have HH := HQ.out
      rw [show ((t + 1 : Nat) : Int) = (t : Int) + 1 from by omega, e, updL_self] at HH
      exact HH _ _ _ _ _ _ _ _ _ _ _ _ _ _ _ _ _ _ _ _ _ _ _ _ _ _ N2.out

set_option maxRecDepth 1000000 in
set_option maxHeartbeats 4000000 in
theorem gk_round4 (w7 wr : World) (Bc nT n k i Bu Bn Bla Bvi Bpl bo oo capo capl capt : Nat) (at_ as_ : Option Addr) (tx : List Int) (FU La Vi Pl : Nat → Int) (X : Nat → List Nat) (hnT : nT ≤ 1000) (hn : n ≤ 100000) (htl : tx.length = nT) (hk : k < nT) (hi : i < nT) (hBc : Bc < w7.heap.size) (hBu : Bu < w7.heap.size) (hbo : bo < w7.heap.size) (hc : w7.cell? ⟨Bc, 0, none⟩ = some (.slice at_ nT capt)) (HTX : Hid (SlI w7 (.slice at_ nT capt) tx)) (HSO : Hid (∀ i j (hi : i < tx.length) (hj : j < tx.length), i < j → tx[i] < tx[j])) (ho : w7.cell? ⟨bo, oo + k, none⟩ = some (.int .i64 (tx.getD i 0))) (hu0 : w7.cell? ⟨Bu, i * 2, none⟩ = some (.int .i64 (FU (i * 2)))) (hu1 : w7.cell? ⟨Bu, i * 2 + 1, none⟩ = some (.int .i64 (FU (i * 2 + 1)))) (HN : Hid (Near w7 Bn nT X)) (HX : Hid (∀ j ∈ X i, j ≠ i ∧ j < nT)) (N1 : Hid (CkL w7 wr Bla Bvi Bpl nT La Vi Pl))
    (Q : Exit → Act → World → Prop) (c1 c2 c3 c4 c6 c8 c9 c10 c11 c14 c15 c16 c17 c18 c23 c24 c25 c26 c27 c28 c29 c30 c31 c32 c33 c34 c35 c36 c37 c38 c39 c40 c41 c42 c43 c44 c45 c46 c47 c48 c49 c50 c51 c52 c53 c54 c55 c56 c57 c58 c59 c60 c61 c62 c63 c64 c65 c66 c67 c68 c69 c70 c71 c72 c73 c74 c75 c76 c77 c78 c79 c80 c81 c82 c83 c84 c85 c86 c87 c88 c89 c90 c91 c92 c93 c94 c95 c96 c97 c98 c99 c100 c101 c102 c103 c104 c105 c106 c107 c108 c109 c110 c111 c112 c113 c114 c115 c116 c117 c118 c119 c120 c121 c122 c123 c124 c125 c126 c127 c128 c129 c130 c131 c132 c133 c134 c135 c136 c137 c138 c139 c140 c141 c142 c143 c144 c145 c146 c147 c148 c149 c150 c151 c152 c153 c154 c155 c156 c157 c158 c159 c160 c161 c162 c163 c164 c165 c166 c167 c168 c169 c170 c171 c172 c173 c174 c175 c176 c177 c178 c179 c180 c181 c182 c183 c184 c185 c186 c187 c188 c189 c190 c191 c192 c193 c194 c195 c196 c197 c198 c199 c200 c201 c202 c203 c204 c205 c206 c207 c208 c209 c210 c211 c212 c213 c214 c215 c216 c217 c218 c219 c220 c221 c222 c223 c224 c225 c226 c227 c228 c229 c230 c231 c232 c233 c234 c235 c236 c237 c238 c239 c240 c241 c242 c243 c244 c245 c246 c247 c248 c249 c250 c251 c252 c253 c254 c255 c256 c257 c258 c259 c260 c261 c262 c263 c264 c265 c266 c267 c268 c269 c270 c271 c272 c273 c274 c275 c276 c277 c278 c279 c280 c281 c282 c283 c284 c285 c286 c287 c288 c289 c290 c291 c292 c293 c294 c295 c296 c297 c298 c299 c300 c301 c302 c303 : Value)
    (hq : ∀ (u23 u24 u25 u27 u166 u167 u168 u169 u170 u171 u172 u173 u174 u175 u176 u177 u178 u179 u180 u181 u182 u183 u184 u185 u186 u187 u188 u189 u190 u191 u192 u193 u194 u195 u196 u197 u198 u199 u200 u201 u202 u203 u204 u205 u206 u207 u208 u209 u210 u211 u212 u213 u214 u215 u216 u217 u218 u219 u220 u221 u222 u223 u224 u225 u226 u227 u228 u229 u230 u231 u232 u233 u234 u235 : Value) (wi : World), CkL w7 wi Bla Bvi Bpl nT (updL La i (mvL La (X i) (lat0 FU n i)).1) (updL Vi i (mvL La (X i) (lat0 FU n i)).2) (updL Pl k (i : Int)) → Q .normal ⟨#[.slice as_ n capl, c1, c2, c3, c4, .pointer (some ⟨Bc, 0, none⟩), c6, .slice (some ⟨Bu, 0, none⟩) nT nT, c8, c9, c10, c11, .slice (some ⟨Bn, 0, none⟩) nT nT, .slice (some ⟨bo, oo, none⟩) nT capo, c14, c15, c16, c17, c18, .slice (some ⟨Bla, 0, none⟩) nT nT, .slice (some ⟨Bvi, 0, none⟩) nT nT, .slice (some ⟨Bpl, 0, none⟩) nT nT, .int .i64 ((k : Int) - 1), u23, u24, u25, c26, u27, c28, c29, c30, c31, c32, c33, c34, c35, c36, c37, c38, c39, c40, c41, c42, c43, c44, c45, c46, c47, c48, c49, c50, c51, c52, c53, c54, c55, c56, c57, c58, c59, c60, c61, c62, c63, c64, c65, c66, c67, c68, c69, c70, c71, c72, c73, c74, c75, c76, c77, c78, c79, c80, c81, c82, c83, c84, c85, c86, c87, c88, c89, c90, c91, c92, c93, c94, c95, c96, c97, c98, c99, c100, c101, c102, c103, c104, c105, c106, c107, c108, c109, c110, c111, c112, c113, c114, c115, c116, c117, c118, c119, c120, c121, c122, c123, c124, c125, c126, c127, c128, c129, c130, c131, c132, c133, c134, c135, c136, c137, c138, c139, c140, c141, c142, c143, c144, c145, c146, c147, c148, c149, c150, c151, c152, c153, c154, c155, c156, c157, c158, c159, c160, c161, c162, c163, c164, c165, u166, u167, u168, u169, u170, u171, u172, u173, u174, u175, u176, u177, u178, u179, u180, u181, u182, u183, u184, u185, u186, u187, u188, u189, u190, u191, u192, u193, u194, u195, u196, u197, u198, u199, u200, u201, u202, u203, u204, u205, u206, u207, u208, u209, u210, u211, u212, u213, u214, u215, u216, u217, u218, u219, u220, u221, u222, u223, u224, u225, u226, u227, u228, u229, u230, u231, u232, u233, u234, u235, c236, c237, c238, c239, c240, c241, c242, c243, c244, c245, c246, c247, c248, c249, c250, c251, c252, c253, c254, c255, c256, c257, c258, c259, c260, c261, c262, c263, c264, c265, c266, c267, c268, c269, c270, c271, c272, c273, c274, c275, c276, c277, c278, c279, c280, c281, c282, c283, c284, c285, c286, c287, c288, c289, c290, c291, c292, c293, c294, c295, c296, c297, c298, c299, c300, c301, c302, c303], []⟩ wi) :
    Code.wp Ybad.prog (lp7 3) Q ⟨#[.slice as_ n capl, c1, c2, c3, c4, .pointer (some ⟨Bc, 0, none⟩), c6, .slice (some ⟨Bu, 0, none⟩) nT nT, c8, c9, c10, c11, .slice (some ⟨Bn, 0, none⟩) nT nT, .slice (some ⟨bo, oo, none⟩) nT capo, c14, c15, c16, c17, c18, .slice (some ⟨Bla, 0, none⟩) nT nT, .slice (some ⟨Bvi, 0, none⟩) nT nT, .slice (some ⟨Bpl, 0, none⟩) nT nT, .int .i64 (k : Int), c23, c24, c25, c26, c27, c28, c29, c30, c31, c32, c33, c34, c35, c36, c37, c38, c39, c40, c41, c42, c43, c44, c45, c46, c47, c48, c49, c50, c51, c52, c53, c54, c55, c56, c57, c58, c59, c60, c61, c62, c63, c64, c65, c66, c67, c68, c69, c70, c71, c72, c73, c74, c75, c76, c77, c78, c79, c80, c81, c82, c83, c84, c85, c86, c87, c88, c89, c90, c91, c92, c93, c94, c95, c96, c97, c98, c99, c100, c101, c102, c103, c104, c105, c106, c107, c108, c109, c110, c111, c112, c113, c114, c115, c116, c117, c118, c119, c120, c121, c122, c123, c124, c125, c126, c127, c128, c129, c130, c131, c132, c133, c134, c135, c136, c137, c138, c139, c140, c141, c142, c143, c144, c145, c146, c147, c148, c149, c150, c151, c152, c153, c154, c155, c156, c157, c158, c159, c160, c161, c162, c163, c164, c165, c166, c167, c168, c169, c170, c171, c172, c173, c174, c175, c176, c177, c178, c179, c180, c181, c182, c183, c184, c185, c186, c187, c188, c189, c190, c191, c192, c193, c194, c195, c196, c197, c198, c199, c200, c201, c202, c203, c204, c205, c206, c207, c208, c209, c210, c211, c212, c213, c214, c215, c216, c217, c218, c219, c220, c221, c222, c223, c224, c225, c226, c227, c228, c229, c230, c231, c232, c233, c234, c235, c236, c237, c238, c239, c240, c241, c242, c243, c244, c245, c246, c247, c248, c249, c250, c251, c252, c253, c254, c255, c256, c257, c258, c259, c260, c261, c262, c263, c264, c265, c266, c267, c268, c269, c270, c271, c272, c273, c274, c275, c276, c277, c278, c279, c280, c281, c282, c283, c284, c285, c286, c287, c288, c289, c290, c291, c292, c293, c294, c295, c296, c297, c298, c299, c300, c301, c302, c303], []⟩ wr := by
  refine Code.wp_mono NoPanic.imp ?_
  have HQ := hid hq
  clear hq
  conv => arg 2; whnf
  have hki : (k : Int) < (nT : Int) := by omega
  have hk0 : (0 : Int) ≤ (k : Int) := by omega
  have hii : (i : Int) < (nT : Int) := by omega
  have hi0 : (0 : Int) ≤ (i : Int) := by omega
  have c0 := (N1.out.bel.cell (p := ⟨Bc, 0, none⟩) hBc).trans hc
  have c1 := (N1.out.bel.cell (p := ⟨bo, oo + k, none⟩) hbo).trans ho
  have hgd : tx.getD i 0 = tx[i] := by simp [List.getD_eq_getElem?_getD, List.getElem?_eq_getElem (show i < tx.length by omega)]
  have HBS := hid (fun q => show Calls Ybad.prog 30 #[.slice at_ nT capt, .int .i64 (tx.getD i 0)] (wr.drewN q) (fun e w' => e = .returned (.tuple #[.int .i64 (i : Int), .bool true]) ∧ w' = wr.drewN q) from by
    rw [hgd]
    exact bs_any (wr.drewN q) _ tx (HTX.out.below (below_drewN N1.out.bel q)) (by omega) HSO.out i (by omega))
  obtain ⟨ti, hti⟩ : ∃ ti, tx.getD i 0 = ti := ⟨_, rfl⟩
  rw [hti] at c1 HBS
  clear hti hgd hc ho
  go_upto_region 35 with fail
  go_cut [23, 24] from 166 to 235 (fun p1 p2 wd => p1 = .int .i64 (i : Int) ∧ p2 = .bool true ∧ CkL w7 wd Bla Bvi Bpl nT La Vi Pl)
  case first =>
    go_quiet ((go_at_call 30; exact Calls.quiet_of_same (HBS.out _)))
    go_wp2
    go_meet
    exact ⟨rfl, rfl, N1.out.drewN _⟩
  case rest =>
    obtain ⟨rfl, rfl, hst⟩ := hcut
    have N2 := hid hst
    clear hst N1 c0 c1 HBS
    have d0 := N2.out.pl.cell hk
    have f0 := N2.out.pl.free k
    have N3 := hid (N2.out.setPl hk (i : Int))
    have d1 := N3.out.la.cell hi
    have f1 := N3.out.la.free i
    have N4 := hid (N3.out.setLa hi (n : Int))
    have d2 := N4.out.vi.cell hi
    have f2 := N4.out.vi.free i
    have N5 := hid (N4.out.setVi hi (-1))
    have e0 := (N5.out.bel.cell (p := ⟨Bu, i * 2, none⟩) hBu).trans hu0
    have e1 := (N5.out.bel.cell (p := ⟨Bu, i * 2 + 1, none⟩) hBu).trans hu1
    have g := N2.out.ge
    go_upto_region 38 with fail
    obtain ⟨wa, hwa⟩ : ∃ wa, wa = ((wc.setCell ⟨Bpl, k, none⟩ (.int .i64 (i : Int))).setCell ⟨Bla, i, none⟩ (.int .i64 (n : Int))).setCell ⟨Bvi, i, none⟩ (.int .i64 (-1)) := ⟨_, rfl⟩
    rw [← hwa] at N5 e0 e1 ⊢
    clear hwa d0 f0 d1 f1 d2 f2 N2 N3 N4 hu0 hu1
    have N6 := hid (N5.out.alloc (.cells #[.int .i64 (FU (i * 2)), .int .i64 (FU (i * 2 + 1))] 65))
    have e2 : (wa.alloc (.cells #[.int .i64 (FU (i * 2)), .int .i64 (FU (i * 2 + 1))] 65)).cell? ⟨wa.heap.size, 1, none⟩ = some (.int .i64 (FU (i * 2 + 1))) := by rw [cell_of_row _ _ _ _ _ _ (heap_alloc_new wa _)]; rfl
    go_upto_region 39 with fail
    obtain ⟨wb, hwb⟩ : ∃ wb, wb = wa.alloc (.cells #[.int .i64 (FU (i * 2)), .int .i64 (FU (i * 2 + 1))] 65) := ⟨_, rfl⟩
    obtain ⟨B, hB⟩ : ∃ B, B = wa.heap.size := ⟨_, rfl⟩
    rw [← hwb] at N6 e2 ⊢
    rw [← hB] at e2 ⊢
    clear hwb hB e0 e1 N5
    have HL0 := hid (show lat0 FU n i = if 0 ≤ FU (i * 2 + 1) then FU (i * 2 + 1) else (n : Int) from rfl)
    obtain ⟨ua, hua⟩ : ∃ ua, FU (i * 2 + 1) = ua := ⟨_, rfl⟩
    rw [hua] at e2 HL0
    clear hua
    go_upto_if 200 with fail
    go_cut [200] from 166 to 235 (fun _ wd => CkL w7 wd Bla Bvi Bpl nT (updL La i (lat0 FU n i)) (updL Vi i (-1)) (updL Pl k (i : Int)))
    case first =>
      by_cases hp : 0 ≤ ua
      · rw [if_pos hp] at HL0
        have d1 := N6.out.la.cell hi
        have f1 := N6.out.la.free i
        have N7 := hid (N6.out.setLa hi ua)
        go_wp2_with fail
        go_meet
        have H7 := N7.out
        rw [updL_updL] at H7
        rw [HL0.out]; exact H7
      · rw [if_neg hp] at HL0
        go_wp2_with fail
        go_meet
        rw [HL0.out]; exact N6.out
    case rest =>
      have N7 := hid hcut
      clear hcut N6 e2
      obtain ⟨hBn, hnn⟩ := HN.out
      obtain ⟨ax, capx, q1, q2, q3⟩ := hnn i hi
      have HQ3 := hid q3
      have e3 := (N7.out.bel.cell (p := ⟨Bn, i, none⟩) hBn).trans q1
      clear hnn q1 q3
      have hxl : ((X i).length : Int) ≤ 100000 := by omega
      obtain ⟨v0, hv0⟩ : ∃ v0, lat0 FU n i = v0 := ⟨_, rfl⟩
      rw [hv0] at N7 HQ
      clear hv0 HL0
      go_wp2_with fail
      go_loopg [211] (X i).length (fun g0 iv wi => ∃ (t : Nat), t ≤ (X i).length ∧ g0 = (X i).length - t ∧ iv = .int .i64 (t : Int) ∧ CkL w7 wi Bla Bvi Bpl nT (updL La i (mvL La ((X i).take t) v0).1) (updL Vi i (mvL La ((X i).take t) v0).2) (updL Pl k (i : Int)))
      case atStart => exact ⟨0, Nat.zero_le _, rfl, rfl, N7.out⟩
      case round =>
        obtain ⟨t, ht, rfl, rfl, hst⟩ := hrel
        have N8 := hid hst
        clear hst N7 e3
        by_cases hlt : t < (X i).length
        · obtain ⟨bx, ox, rfl, hbx, hcx⟩ := HQ3.out t hlt
          have hm := HX.out _ (List.getElem_mem hlt)
          refine gk_round5 w7 wr nT i (X i)[t] t Bla Bvi Bpl capx _ _ _ (X i) bx ox hnT hi q2 hlt rfl hm.2 hbx hcx hm.1 N8 _ _ _ _ _ _ _ _ _ _ _ _ _ _ _ _ _ _ _ _ _ _ _ _ _ _ _ _ _ _ _ _ _ _ _ _ _ _ _ _ _ _ _ _ _ _ _ _ _ _ _ _ _ _ _ _ _ _ _ _ _ _ _ _ _ _ _ _ _ _ _ _ _ _ _ _ _ _ _ _ _ _ _ _ _ _ _ _ _ _ _ _ _ _ _ _ _ _ _ _ _ _ _ _ _ _ _ _ _ _ _ _ _ _ _ _ _ _ _ _ _ _ _ _ _ _ _ _ _ _ _ _ _ _ _ _ _ _ _ _ _ _ _ _ _ _ _ _ _ _ _ _ _ _ _ _ _ _ _ _ _ _ _ _ _ _ _ _ _ _ _ _ _ _ _ _ _ _ _ _ _ _ _ _ _ _ _ _ _ _ _ _ _ _ _ _ _ _ _ _ _ _ _ _ _ _ _ _ _ _ _ _ _ _ _ _ _ _ _ _ _ _ _ _ _ _ _ _ _ _ _ _ _ _ _ _ _ _ _ _ _ _ _ _ _ _ _ _ _ _ _ _ _ _ _ _ _ _ _ _ _ _ _ _ _ _ _ _ _ _ _ _ _ _ _ _ _ _ _ _ _ _ _ _ _ _ _ _ _ _ _ _ _ _ _ _ _ _ _ ?_
          intro u27 u212 u213 u214 u215 u216 u217 u218 u219 u220 u221 u222 u223 u224 u225 u226 u227 u228 u229 u230 u231 u232 u233 u234 u235 wi hst
          dsimp only [Exit.then]
          go_wp2_with fail
          go_roundg ((X i).length - (t + 1))
          case measure => omega
          case rel => exact ⟨t + 1, by omega, rfl, rfl, by rw [(mv_step (La := La) (Vi := Vi) hlt rfl hm.1 v0).1, (mv_step (La := La) (Vi := Vi) hlt rfl hm.1 v0).2]; exact hst⟩
        · obtain rfl : t = (X i).length := by omega
          rw [List.take_length] at N8
          go_wp2_with fail
          exact HQ.out _ _ _ _ _ _ _ _ _ _ _ _ _ _ _ _ _ _ _ _ _ _ _ _ _ _ _ _ _ _ _ _ _ _ _ _ _ _ _ _ _ _ _ _ _ _ _ _ _ _ _ _ _ _ _ _ _ _ _ _ _ _ _ _ _ _ _ _ _ _ _ _ _ _ _ N8.out

end Go.Proofs.YbulkbgasDoor
